import Derived.Test.Qxb6602460aCycB
namespace Go.Proofs.Qxb6602460a
open Go.RowKit Go.Maps Go.Own

theorem codeC6 : (stm Try.f38.body 6) = .seq (headC (stm Try.f38.body 6)) (.block 2 (.loop (innerC (innerC (tailC (stm Try.f38.body 6)))))) := rfl
theorem codeCO : (innerC (innerC (tailC (stm Try.f38.body 6)))) = .seq (headC (innerC (innerC (tailC (stm Try.f38.body 6))))) (.seq (.block 3 (.seq (headC (innerC (headC (tailC (innerC (innerC (tailC (stm Try.f38.body 6)))))))) (.seq (headC (tailC (innerC (headC (tailC (innerC (innerC (tailC (stm Try.f38.body 6))))))))) (.block 4 (.loop (innerC (innerC (tailC (tailC (innerC (headC (tailC (innerC (innerC (tailC (stm Try.f38.body 6)))))))))))))))) (tailC (tailC (innerC (innerC (tailC (stm Try.f38.body 6))))))) := rfl
theorem codeCL : (innerC (innerC (tailC (tailC (innerC (headC (tailC (innerC (innerC (tailC (stm Try.f38.body 6))))))))))) = .seq (headC (innerC (innerC (tailC (tailC (innerC (headC (tailC (innerC (innerC (tailC (stm Try.f38.body 6)))))))))))) (.seq (headC (tailC (innerC (innerC (tailC (tailC (innerC (headC (tailC (innerC (innerC (tailC (stm Try.f38.body 6))))))))))))) (.seq (.block 5 (.seq (headC (innerC (headC (tailC (tailC (innerC (innerC (tailC (tailC (innerC (headC (tailC (innerC (innerC (tailC (stm Try.f38.body 6)))))))))))))))) (.seq (.seq (headC (headC (tailC (innerC (headC (tailC (tailC (innerC (innerC (tailC (tailC (innerC (headC (tailC (innerC (innerC (tailC (stm Try.f38.body 6)))))))))))))))))) (.cond (.tmp 54) (condT (tailC (headC (tailC (innerC (headC (tailC (tailC (innerC (innerC (tailC (tailC (innerC (headC (tailC (innerC (innerC (tailC (stm Try.f38.body 6))))))))))))))))))) .skip)) (.seq (headC (tailC (tailC (innerC (headC (tailC (tailC (innerC (innerC (tailC (tailC (innerC (headC (tailC (innerC (innerC (tailC (stm Try.f38.body 6)))))))))))))))))) (.cond (.tmp 64) (.seq (headC (condT (tailC (tailC (tailC (innerC (headC (tailC (tailC (innerC (innerC (tailC (tailC (innerC (headC (tailC (innerC (innerC (tailC (stm Try.f38.body 6)))))))))))))))))))) (tailC (condT (tailC (tailC (tailC (innerC (headC (tailC (tailC (innerC (innerC (tailC (tailC (innerC (headC (tailC (innerC (innerC (tailC (stm Try.f38.body 6))))))))))))))))))))) .skip))))) (tailC (tailC (tailC (innerC (innerC (tailC (tailC (innerC (headC (tailC (innerC (innerC (tailC (stm Try.f38.body 6)))))))))))))))) := rfl

theorem then_hit {K : Act → World → Prop} {id : Nat} {Q : Exit → Act → World → Prop} {a : Act} {w : World} (h : Q .normal a w) : Exit.then K (Exit.inBlock id Q) (.exit id) a w := inBlock_hit h

theorem nodup_len : ∀ (n : Nat) (Q : List Nat), Q.Nodup → (∀ x, x ∈ Q → x < n) → Q.length ≤ n
  | 0, [], _, _ => Nat.le_refl _
  | 0, a :: l, _, h => absurd (h a (List.mem_cons_self ..)) (Nat.not_lt_zero _)
  | n + 1, Q, hn, h => by
    by_cases hm : n ∈ Q
    · have h1 := nodup_len n (Q.erase n) (hn.erase n) (fun x hx => by
        obtain ⟨h1, h2⟩ := hn.mem_erase_iff.1 hx
        have := h x h2
        omega)
      rw [List.length_erase_of_mem hm] at h1
      have := List.length_pos_of_mem hm
      omega
    · have h1 := nodup_len n Q hn (fun x hx => by
        have := h x hx
        have : x ≠ n := fun e => hm (e ▸ hx)
        omega)
      omega

/-- Up the tree, k steps. -/
def up (pi : Nat → Nat) : Nat → Nat → Nat
  | 0, j => j
  | k + 1, j => pi (up pi k j)

theorem up_shift (pi : Nat → Nat) : ∀ k j, up pi (k + 1) j = up pi k (pi j)
  | 0, _ => rfl
  | k + 1, j => by show pi (up pi (k + 1) j) = pi (up pi k (pi j)); rw [up_shift pi k j]

theorem up_hit {pi : Nat → Nat} {m : Nat} (hpi : ∀ j, 0 < j → j < m → pi j < j) : ∀ j, j < m → ∃ L, L ≤ j ∧ up pi L j = 0 ∧ ∀ i, i < L → 0 < up pi i j ∧ up pi i j < m := by
  intro j
  induction j using Nat.strongRecOn with
  | _ j ih =>
    intro hj
    by_cases e : j = 0
    · subst e; exact ⟨0, Nat.le_refl _, rfl, fun i hi => absurd hi (Nat.not_lt_zero _)⟩
    · have hlt := hpi j (by omega) hj
      obtain ⟨L, h1, h2, h3⟩ := ih (pi j) hlt (by omega)
      refine ⟨L + 1, by omega, by rw [up_shift]; exact h2, fun i hi => ?_⟩
      cases i with
      | zero => exact ⟨by show 0 < j; omega, hj⟩
      | succ i => rw [up_shift]; exact h3 i (by omega)

theorem nodup_getD {Q : List Nat} (hn : Q.Nodup) {i j : Nat} (hi : i < Q.length) (hj : j < Q.length) (e : Q.getD i 0 = Q.getD j 0) : i = j := by
  rw [List.getD_eq_getElem?_getD, List.getD_eq_getElem?_getD, List.getElem?_eq_getElem hi, List.getElem?_eq_getElem hj] at e
  exact (List.getElem_inj hn).1 e

theorem mem_at {l : List Nat} {x : Nat} (h : x ∈ l) : ∃ i, i < l.length ∧ l.getD i 0 = x := by
  obtain ⟨i, hi, e⟩ := List.getElem_of_mem h
  exact ⟨i, hi, by rw [List.getD_eq_getElem?_getD, List.getElem?_eq_getElem hi]; exact e⟩

theorem fin_absurd {out : Nat → List Nat} {s h : Nat} {Q K : List Nat} {pi : Nat → Nat} {par : Nat → Int} (hF : FInv out s Q pi h K par) (hh : Q.length ≤ h) (hc : OnCyc (Ed out) s) : False := by
  obtain ⟨w, hne, h1, h2⟩ := hc
  have hcl : ∀ x y, x ∈ Q → Ed out x y → y ∈ Q := fun x y hx hE => by
    obtain ⟨i, hi, rfl⟩ := mem_at hx
    exact (hF.done i (by omega) y hE).1
  have hsQ : s ∈ Q := by rw [← hF.qs]; exact mem_getD hF.q0
  have hwQ : w ∈ Q := h1.closed (C := fun x => x ∈ Q) hcl hsQ
  obtain ⟨x, y, g1, g2, g3, g4, g5⟩ := h2.exit (C := fun x => x ≠ s) hne (fun h => h rfl)
  have hys : y = s := Classical.byContradiction g4
  subst hys
  have hxQ : x ∈ Q := g1.closed (C := fun x => x ∈ Q) hcl hwQ
  obtain ⟨i, hi, rfl⟩ := mem_at hxQ
  exact (hF.done i (by omega) _ g3).2 rfl

/-- What cycle leaves. -/
def CyPost (n : Nat) (out : Nat → List Nat) (nd : Nat → Int) (w : World) (e : Ending) (w' : World) : Prop :=
  Below w.heap.size w w' ∧ ((e = .returned (.slice Option.none 0 0) ∧ ∀ x, x < n → ¬ OnCyc (Ed out) x) ∨
    ∃ (s : Nat) (Q : List Nat) (pi : Nat → Nat) (h : Nat) (K : List Nat) (par : Nat → Int) (L : Nat) (t : Nat → Nat) (b c : Nat), s < n ∧ OnCyc (Ed out) s ∧ (∀ x, x < s → ¬ OnCyc (Ed out) x) ∧ FInv out s Q pi h K par ∧ h < Q.length ∧ Ed out (Q.getD h 0) s ∧
      t 0 = 0 ∧ t L = h ∧ (∀ i, i < L → 0 < t (i + 1) ∧ pi (t (i + 1)) = t i) ∧ (∀ i, i ≤ L → t i < Q.length) ∧ L ≤ 65536 ∧ e = .returned (.slice (some ⟨b, 0, Option.none⟩) (L + 2) c) ∧ SliceAt w' (some ⟨b, 0, Option.none⟩) (L + 2) c (fun i => .int .i64 (if i ≤ L then nd (Q.getD (t i) 0) else nd s)))

/-- Where the outer loop stands. -/
def CyO (W : World) (H n s PB : Nat) (na oa : Option Addr) (nc oc : Nat) (out : Nat → List Nat) (g : Nat) (a : Act) (w : World) : Prop :=
  ∃ (Q : List Nat) (pi : Nat → Nat) (h : Nat) (par : Nat → Int) (b off cap : Nat) (s7 s9 s46 s47 s48 : Value), g = n - h ∧ FInv out s Q pi h [] par ∧ Fr38 a (.pointer (some ⟨H, 0, Option.none⟩)) (.int .i64 (s : Nat)) (.slice (some ⟨PB, 0, Option.none⟩) n n) (.slice (some ⟨b, off, Option.none⟩) (Q.drop h).length cap) (s7) (s9) (s46) (s47) (s48) ∧ Qu w (PB + 1) b off cap (Q.drop h) ∧ b < w.heap.size ∧ w.rowIs PB 3 n (fun i => .int .i64 (par i)) ∧ w.rowIs H 51 2 (fun i => if i = 0 then .slice na n nc else .slice oa n oc) ∧ Below H W w ∧ ∀ x, x ∈ Q → x < n

/-- Where the inner loop stands. -/
def CyI (W : World) (H n s PB : Nat) (na oa : Option Addr) (nc oc : Nat) (out : Nat → List Nat) (A : Nat → Option Addr) (C : Nat → Nat) (h v : Nat) (g : Nat) (a : Act) (w : World) : Prop :=
  ∃ (Q : List Nat) (pi : Nat → Nat) (par : Nat → Int) (b off cap k : Nat) (s9 : Value), g = (out v).length - k ∧ k ≤ (out v).length ∧ FInv out s Q pi h ((out v).take k) par ∧ h < Q.length ∧ Q.getD h 0 = v ∧ Fr38 a (.pointer (some ⟨H, 0, Option.none⟩)) (.int .i64 (s : Nat)) (.slice (some ⟨PB, 0, Option.none⟩) n n) (.slice (some ⟨b, off, Option.none⟩) (Q.drop h).length cap) (.int .i64 (v : Nat)) (s9) (.slice (A v) (out v).length (C v)) (.int .i64 ((out v).length : Nat)) (.int .i64 (k : Nat)) ∧ Qu w (PB + 1) b off cap (Q.drop h) ∧ b < w.heap.size ∧ w.rowIs PB 3 n (fun i => .int .i64 (par i)) ∧ w.rowIs H 51 2 (fun i => if i = 0 then .slice na n nc else .slice oa n oc) ∧ Below H W w ∧ ∀ x, x ∈ Q → x < n

theorem cyPath {W w : World} {H n s PB h : Nat} {na oa : Option Addr} {nc oc : Nat} {out : Nat → List Nat} {nd : Nat → Int} {Q K : List Nat} {pi : Nat → Nat} {par : Nat → Int}
    (hn : n ≤ 65536) (hnd : SliceAt W na n nc (fun i => .int .i64 (nd i))) (hH : W.heap.size = H) (hB : Below H W w) (hp : w.rowIs PB 3 n (fun i => .int .i64 (par i))) (hF : FInv out s Q pi h K par) (hlt : h < Q.length) (hE : Ed out (Q.getD h 0) s) (hQ : ∀ x, x ∈ Q → x < n) (hs : s < n) (hcyc : OnCyc (Ed out) s) (hleast : ∀ x, x < s → ¬ OnCyc (Ed out) x) :
    Calls Try.prog 43 #[.agg #[.slice na n nc, .slice oa n oc], .slice (some ⟨PB, 0, Option.none⟩) n n, .int .i64 (Q.getD h 0 : Nat), .int .i64 (s : Nat)] w (CyPost n out nd W) := by
  have hpi : ∀ j, 0 < j → j < Q.length → pi j < j := fun j h0 hj => (hF.pp j h0 hj).1
  obtain ⟨L, hL, h0, hall⟩ := up_hit hpi h hlt
  have hup : ∀ i, i ≤ L → up pi i h < Q.length := fun i hi => by
    by_cases e : i = L
    · subst e; rw [h0]; exact hF.q0
    · exact (hall i (by omega)).2
  have hQl : Q.length ≤ n := by
    exact nodup_len n Q hF.nd hQ
  have hcall := path43 na oa n nc oc PB L s (fun i => Q.getD (up pi i h) 0) nd par w (SliceAt.below hnd (by rw [hH]; exact hB)) hp (by omega) (fun i hi => hQ _ (mem_getD (hup i hi))) (by show Q.getD (up pi L h) 0 = s; rw [h0]; exact hF.qs)
    (fun i hi => by
      obtain ⟨g1, g2⟩ := hall i hi
      refine ⟨fun e => ?_, (hF.pp _ g1 g2).2.2.2⟩
      have := nodup_getD hF.nd g2 hF.q0 (e.trans hF.qs.symm)
      omega)
  refine hcall.mono ?_
  rintro e w' ⟨b, c, rfl, hb, hsl⟩
  have hbw : Below W.heap.size W w' := by
    rw [hH]; refine hB.trans (hb.mono ?_); rw [← hH]; exact hB.size
  refine ⟨hbw, .inr ⟨s, Q, pi, h, K, par, L, fun i => up pi (L - i) h, b, c, hs, hcyc, hleast, hF, hlt, hE, by show up pi (L - 0) h = 0; exact h0, by show up pi (L - L) h = h; rw [Nat.sub_self]; rfl, fun i hi => ?_, fun i hi => hup _ (by omega), by omega, rfl, hsl⟩⟩
  have e : L - i = (L - (i + 1)) + 1 := by omega
  refine ⟨(hall _ (by omega)).1, ?_⟩
  show pi (up pi (L - (i + 1)) h) = up pi (L - i) h
  rw [e]; rfl

theorem cy6 {W w : World} {H n s PB : Nat} {na oa : Option Addr} {nc oc : Nat} {out : Nat → List Nat} {A : Nat → Option Addr} {C : Nat → Nat} {nd : Nat → Int} {a : Act} {s6 s7 s9 s46 s47 s48 : Value} {Q' : Exit → Act → World → Prop}
    (hn : n ≤ 65536) (hgr : Gr W oa n oc A C out) (hnd : SliceAt W na n nc (fun i => .int .i64 (nd i))) (hH : W.heap.size = H) (hin : ∀ i, i < n → ∀ y, y ∈ out i → y < n) (hlen : ∀ i, i < n → (out i).length ≤ 1048576) (hasc : ∀ v, v < n → ∀ i j, i ≤ j → j < (out v).length → (out v).getD i 0 ≤ (out v).getD j 0)
    (hs : s < n) (hcyc : OnCyc (Ed out) s) (hleast : ∀ x, x < s → ¬ OnCyc (Ed out) x) (hPB : H < PB)
    (hB : Below H W w) (hg : w.rowIs H 51 2 (fun i => if i = 0 then .slice na n nc else .slice oa n oc)) (hp : w.rowIs PB 3 n (fun i => .int .i64 (updI (fun _ => -1) s (s : Int) i)))
    (hF : Fr38 a (.pointer (some ⟨H, 0, Option.none⟩)) (.int .i64 (s : Nat)) (.slice (some ⟨PB, 0, Option.none⟩) n n) (s6) (s7) (s9) (s46) (s47) (s48))
    (hZ : ∀ a' w' v', a'.defers = [] → a'.tmps.getD 2 undef = v' → CyPost n out nd W (.returned v') w' → Q' .ret a' w') :
    Code.wp Try.prog (stm Try.f38.body 6) Q' a w := by
  have hbG : ∀ {w' : World}, Below H W w' → Gr w' oa n oc A C out := fun h => RowsAt.below hgr (by rw [hH]; exact h)
  have hPw := hp.lt
  have hHw : H ≤ w.heap.size := by omega
  rw [codeC6]
  refine wp_seq (cyC hF fun a1 h1 => ?_)
  have hb1 : Below w.heap.size w (w.alloc (.cells #[.int .i64 (s : Nat)] 3)) := (Below.refl _ _).alloc (Nat.le_refl _) _
  have hq1 : Qu (w.alloc (.cells #[.int .i64 (s : Nat)] 3)) (PB + 1) w.heap.size 0 1 [s] := ⟨hPw, Nat.le_refl _, fun j hj => by
      have : j = 0 := by simp at hj; omega
      subst this
      exact cell_new w _ 3 0 rfl, fun j hj => by
      have : j = 0 := by omega
      subst this
      refine ⟨by rw [cell_new w #[.int .i64 (s : Nat)] 3 0 rfl]; rfl, ?_⟩
      exact (World.rowIs_alloc w #[.int .i64 (s : Nat)] 3 (fun _ => .int .i64 (s : Nat)) one_at).frozen 0⟩
  refine wp_block (wp_loop_ghost (CyO W H n s PB na oa nc oc out) n ⟨[s], _, 0, _, w.heap.size, 0, 1, _, _, _, _, _, by omega, FInv.start out s, h1, hq1, by simp, hp.alloc _, hg.alloc _, hB.trans (hb1.mono hHw), fun x hx => by simp at hx; omega⟩ ?_)
  rintro g a2 w2 ⟨Q, pi, h, par, b, off, cap, s7, s9, s46, s47, s48, rfl, hFI, h2, hq, hbl, hp2, hg2, hB2, hQ⟩
  rw [codeCO]
  refine wp_seq (cyD h2 (fun hm a3 h3 => ?_) (fun hm a3 h3 => ?_))
  rotate_left
  · exfalso
    refine fin_absurd hFI ?_ hcyc
    rw [List.length_drop] at hm
    omega
  have hlt : h < Q.length := by rw [List.length_drop] at hm; omega
  have hv : Q.getD h 0 < n := hQ _ (mem_getD hlt)
  have hdr : Q.drop h = Q.getD h 0 :: Q.drop (h + 1) := by
    rw [List.drop_eq_getElem_cons hlt, List.getD_eq_getElem?_getD, List.getElem?_eq_getElem hlt]; rfl
  have hhead : w2.cell? ⟨b, off, Option.none⟩ = some (.int .i64 (Q.getD h 0 : Nat)) := by
    have := hq.2.2.1 0 hm
    rw [hdr] at this
    exact this
  refine wp_seq (wp_block (wp_seq (cyE hm hhead h3 fun a4 h4 => wp_seq (cyF hg2 hv (Gr.row (hbG hB2) hv) h4 fun a5 h5 => ?_))))
  generalize hvv : Q.getD h 0 = v at hv h5
  refine wp_block (wp_loop_ghost (CyI W H n s PB na oa nc oc out A C h v) (out v).length ⟨Q, pi, par, b, off, cap, 0, _, by omega, Nat.zero_le _, by rw [List.take_zero]; exact hFI, hlt, hvv, h5, hq, hbl, hp2, hg2, hB2, hQ⟩ ?_)
  clear hFI h2 hq hbl hp2 hg2 hB2 hQ h3 h4 h5 hlt hvv hdr hhead hm hq1 h1 hb1
  rintro g2 a6 w6 ⟨Q, pi, par, b, off, cap, k, s9, rfl, hk, hFI, hlt, hvv, h6, hq, hbl, hp6, hg6, hB6, hQ⟩
  have hlv := hlen v hv
  rw [codeCL]
  refine cyG _ h6 (fun hkl a7 h7 => ?_) (fun hnl a7 h7 => ?_)
  · have hmem : (out v).getD k 0 ∈ out v := mem_getD hkl
    have hx : (out v).getD k 0 < n := hin v hv _ hmem
    have htk := take_getD hkl
    refine wp_seq (wp_block (wp_seq (cyH hkl (Gr.at (hbG hB6) hv hkl) h7 fun a8 h8 => wp_seq ?_)))
    have hle : ∀ y, y ∈ (out v).take k → y ≤ (out v).getD k 0 := fun y hy => by
      obtain ⟨i, hi, rfl⟩ := mem_at hy
      have hik : i < k := by simp at hi; omega
      have : ((out v).take k).getD i 0 = (out v).getD i 0 := by
        rw [List.getD_eq_getElem?_getD, List.getD_eq_getElem?_getD, List.getElem?_take, if_pos hik]
      rw [this]
      exact hasc v hv i k (by omega) hkl
    generalize (out v).getD k 0 = x at *
    have hE : Ed out (Q.getD h 0) x := by rw [hvv]; exact hmem
    have fin : ∀ (Q'' : Exit → Act → World → Prop) (a9 : Act) (w9 : World) (Q : List Nat) (pi : Nat → Nat) (par : Nat → Int) (b off cap : Nat), (∀ a' w', (∃ n', n' < (out v).length - k ∧ CyI W H n s PB na oa nc oc out A C h v n' a' w') → Q'' .normal a' w') →
        FInv out s Q pi h ((out v).take k ++ [x]) par → h < Q.length → Q.getD h 0 = v → Fr38 a9 (.pointer (some ⟨H, 0, Option.none⟩)) (.int .i64 (s : Nat)) (.slice (some ⟨PB, 0, Option.none⟩) n n) (.slice (some ⟨b, off, Option.none⟩) (Q.drop h).length cap) (.int .i64 (v : Nat)) (.int .i64 (x : Nat)) (.slice (A v) (out v).length (C v)) (.int .i64 ((out v).length : Nat)) (.int .i64 (k : Nat)) → Qu w9 (PB + 1) b off cap (Q.drop h) → b < w9.heap.size → w9.rowIs PB 3 n (fun i => .int .i64 (par i)) → w9.rowIs H 51 2 (fun i => if i = 0 then .slice na n nc else .slice oa n oc) → Below H W w9 → (∀ x, x ∈ Q → x < n) →
        Code.wp Try.prog (tailC (tailC (tailC (innerC (innerC (tailC (tailC (innerC (headC (tailC (innerC (innerC (tailC (stm Try.f38.body 6)))))))))))))) Q'' a9 w9 := fun Q'' a9 w9 Q pi par b off cap hq'' g1 g2 g3 g4 g5 g6 g7 g8 g9 g10 => cyN hkl hlv g4 fun a10 g11 => hq'' _ _ ⟨(out v).length - (k + 1), by omega, Q, pi, par, b, off, cap, k + 1, _, rfl, hkl, by rw [htk]; exact g1, g2, g3, g11, g5, g6, g7, g8, g9, g10⟩
    refine cyI _ _ h8 (fun hxs a9 h9 => ?_) (fun hxs a9 h9 => ?_)
    · subst hxs
      have hcall := cyPath (oa := oa) (oc := oc) hn hnd hH hB6 hp6 hFI hlt hE hQ hs hcyc hleast
      rw [hvv] at hcall
      refine cyJ _ hg6 hcall h9 (fun e w' hr => ?_) (fun a' w' v' hd h2' hr => ?_)
      · rcases hr.2 with ⟨he, _⟩ | ⟨_, _, _, _, _, _, _, _, _, _, _, _, _, _, _, _, _, _, _, _, _, he, _⟩
        · exact ⟨_, he⟩
        · exact ⟨_, he⟩
      · exact hZ a' w' v' hd h2' hr
    · refine wp_skip ?_
      refine cyK _ _ hx (hp6.cell hx) h9 (fun hneg a10 h10 => ?_) (fun hneg a10 h10 => ?_)
      · refine wp_seq (cyL hp6 hx h10 fun a11 h11 => ?_)
        have hw11 : Below H W (w6.setCell ⟨PB, x, Option.none⟩ (.int .i64 (v : Nat))) := hB6.setCell (p := ⟨PB, x, Option.none⟩) (Nat.le_of_lt hPB) _
        have hbne : b ≠ PB := by have := hq.1; omega
        have hq11 : Qu (w6.setCell ⟨PB, x, Option.none⟩ (.int .i64 (v : Nat))) (PB + 1) b off cap (Q.drop h) := hq.of_block (heap_setCell_other _ _ _ _ hbne)
        have hp11 : (w6.setCell ⟨PB, x, Option.none⟩ (.int .i64 (v : Nat))).rowIs PB 3 n (fun i => .int .i64 (updI par x (v : Int) i)) := (hp6.set x _).congr fun i hi => by unfold updI; split <;> rfl
        have hg11 : (w6.setCell ⟨PB, x, Option.none⟩ (.int .i64 (v : Nat))).rowIs H 51 2 (fun i => if i = 0 then .slice na n nc else .slice oa n oc) := hg6.of_block (heap_setCell_other _ _ _ _ (by simp; omega))
        have hs11 : PB + 1 ≤ (w6.setCell ⟨PB, x, Option.none⟩ (.int .i64 (v : Nat))).heap.size := hp11.lt
        have hbl11 : b < (w6.setCell ⟨PB, x, Option.none⟩ (.int .i64 (v : Nat))).heap.size := by simpa using hbl
        generalize w6.setCell ⟨PB, x, Option.none⟩ (.int .i64 (v : Nat)) = w11 at *
        have hQl : Q.length ≤ n := by
          exact nodup_len n Q hFI.nd hQ
        obtain ⟨b', off', c', w12, hrun, hq12, hbl12, hb12⟩ := hq11.append x 22 hs11 hbl11 (by rw [List.length_drop]; omega)
        refine cyM hrun h11 fun a12 h12 => ?_
        have hadd := hFI.add hlt hE hneg hle
        rw [hvv] at hadd
        have hdq : (Q ++ [x]).drop h = Q.drop h ++ [x] := by rw [List.drop_append_of_le_length (Nat.le_of_lt hlt)]
        refine fin _ a12 w12 (Q ++ [x]) _ _ b' off' c' (fun _ _ h => h) hadd (by simp; omega) (by rw [getD_append_left hlt]; exact hvv) ?_ (by rw [hdq]; exact hq12) hbl12 (hp11.of_block (hb12.block _ (Nat.lt_succ_self _))) (hg11.of_block (hb12.block _ (by omega))) (hw11.trans (hb12.mono (by omega))) (fun y hy => by
          rcases List.mem_append.1 hy with hy | hy
          · exact hQ y hy
          · simp at hy; omega)
        rw [hdq, List.length_append]
        exact h12
      · refine wp_skip ?_
        exact fin _ a10 w6 Q pi par b off cap (fun _ _ h => h) (hFI.seen (by omega) hxs) hlt hvv h10 hq hbl hp6 hg6 hB6 hQ
  · obtain rfl : k = (out v).length := by omega
    rw [List.take_length] at hFI
    refine then_hit ?_
    have hnext := hFI.next hlt (fun y hy => by rw [hvv] at hy; exact hy)
    have hdr : Q.drop h = Q.getD h 0 :: Q.drop (h + 1) := by
      rw [List.drop_eq_getElem_cons hlt, List.getD_eq_getElem?_getD, List.getElem?_eq_getElem hlt]; rfl
    have hQl : Q.length ≤ n := by
      exact nodup_len n Q hFI.nd hQ
    rw [hdr] at hq
    have hcap : (Q.drop (h + 1)).length + 1 ≤ cap := hq.2.1
    have h7' := h7
    rw [hdr, List.length_cons] at h7'
    by_cases hc1 : cap = 1
    · obtain ⟨he, hq'⟩ := hq.empty hc1
      subst hc1
      rw [he] at h7' hq'
      refine cyO1 h7' fun a8 h8 => ?_
      exact ⟨n - (h + 1), by omega, Q, pi, h + 1, par, b, off, 0, _, _, _, _, _, rfl, hnext, by rw [he]; exact h8, by rw [he]; exact hq', hbl, hp6, hg6, hB6, hQ⟩
    · refine cyO hc1 hcap h7' fun a8 h8 => ?_
      exact ⟨n - (h + 1), by omega, Q, pi, h + 1, par, b, off + 1, cap - 1, _, _, _, _, _, rfl, hnext, h8, hq.tail, hbl, hp6, hg6, hB6, hQ⟩

theorem cycle38 {w : World} {n : Nat} {na oa : Option Addr} {nc oc : Nat} {out : Nat → List Nat} {A : Nat → Option Addr} {C : Nat → Nat} {nd : Nat → Int}
    (hn : n ≤ 65536) (hgr : Gr w oa n oc A C out) (hnd : SliceAt w na n nc (fun i => .int .i64 (nd i))) (hin : ∀ i, i < n → ∀ y, y ∈ out i → y < n) (hlen : ∀ i, i < n → (out i).length ≤ 1048576) (hasc : ∀ v, v < n → ∀ i j, i ≤ j → j < (out v).length → (out v).getD i 0 ≤ (out v).getD j 0) :
    Calls Try.prog 38 #[.agg #[.slice na n nc, .slice oa n oc]] w (CyPost n out nd w) := by
  go_enter Try.func38, Try.ntmps38
  show Code.wp Try.prog (.seq (stm Try.f38.body 0) (.seq (stm Try.f38.body 1) (.seq (stm Try.f38.body 2) (.seq (stm Try.f38.body 3) (.seq (stm Try.f38.body 4) (.seq (stm Try.f38.body 5) (.seq (stm Try.f38.body 6) (rst Try.f38.body 7)))))))) _ _ _
  refine cyA _ hgr hn hin hlen rfl (fun a1 w1 hd h2 hb hno => ?_) (fun a1 w1 s hs hc hl hb hg h1 => ?_)
  · exact bodyPost_ret (results_tmp rfl _ _ _) hd ⟨hb, .inl ⟨by rw [h2], hno⟩⟩
  · have hlt1 := hg.lt
    refine cyB _ hn hs hg h1 fun a2 w2 hb2 hp2 h2 => ?_
    refine wp_seq (cy6 hn hgr hnd rfl hin hlen hasc hs hc hl hlt1 (hb.trans (hb2.mono (Nat.le_of_lt hlt1))) (hg.of_block (hb2.block _ hlt1)) hp2 h2 fun a3 w3 v' hd h3 hP => ?_)
    exact bodyPost_ret (results_tmp rfl _ _ _) hd (by rw [h3]; exact hP)

theorem zzCycle22 {w : World} {n : Nat} {na oa : Option Addr} {nc oc : Nat} {out : Nat → List Nat} {A : Nat → Option Addr} {C : Nat → Nat} {nd : Nat → Int}
    (hn : n ≤ 65536) (hgr : Gr w oa n oc A C out) (hnd : SliceAt w na n nc (fun i => .int .i64 (nd i))) (hin : ∀ i, i < n → ∀ y, y ∈ out i → y < n) (hlen : ∀ i, i < n → (out i).length ≤ 1048576) (hasc : ∀ v, v < n → ∀ i j, i ≤ j → j < (out v).length → (out v).getD i 0 ≤ (out v).getD j 0) :
    Calls Try.prog 22 #[.slice na n nc, .slice oa n oc] w (CyPost n out nd w) := by
  have hcall := cycle38 hn hgr hnd hin hlen hasc
  clear hgr hnd hin hlen hasc
  go_enter Try.func22, Try.ntmps22
  go_wp2_with fail
  refine hcall.mono ?_
  intro e w2 hr
  have hv : ∃ v', e = .returned v' := by
    rcases hr.2 with ⟨he, _⟩ | ⟨_, _, _, _, _, _, _, _, _, _, _, _, _, _, _, _, _, _, _, _, _, he, _⟩
    · exact ⟨_, he⟩
    · exact ⟨_, he⟩
  obtain ⟨v', rfl⟩ := hv
  have HQ := hide hr
  clear hr
  go_wp2_with fail
  go_ret
  exact unhide HQ

end Go.Proofs.Qxb6602460a
