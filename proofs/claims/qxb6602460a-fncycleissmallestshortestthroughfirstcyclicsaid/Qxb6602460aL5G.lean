import Derived.Test.Qxb6602460aL5P
import Derived.Test.Qxb6602460aL5C
namespace Go.Proofs.Qxb6602460a
open Go.RowKit Go.Maps Go.Own

/-- What the search back from s keeps in memory. -/
structure D1 (W w : World) (DB n : Nat) (dist : Nat → Int) (Q : List Nat) : Prop where
  bel : Below DB W w
  row : w.rowIs DB 3 n (fun i => .int .i64 (dist i))
  q : Bl w (DB + 1) n Q

theorem D1.le {W w : World} {DB n : Nat} {dist : Nat → Int} {Q : List Nat} (h : D1 W w DB n dist Q) : DB ≤ w.heap.size := Nat.le_of_lt h.row.lt
theorem D1.set {W w : World} {DB n : Nat} {dist : Nat → Int} {Q : List Nat} (h : D1 W w DB n dist Q) (x : Nat) (k : Int) : D1 W (w.setCell ⟨DB, x, Option.none⟩ (.int .i64 k)) DB n (updI dist x k) Q :=
  ⟨h.bel.setCell (Nat.le_refl _) _, (h.row.set x _).congr fun i _ => by unfold updI; split <;> rfl, h.q.setOther (by show DB + 1 ≠ DB; omega) _⟩
theorem D1.push {W w : World} {DB n : Nat} {dist : Nat → Int} {Q : List Nat} (h : D1 W w DB n dist Q) (hlt : Q.length < n) (x : Nat) : D1 W ((w.alloc (.cells #[.int .i64 (x : Nat)] 3)).setCell ⟨DB + 1, Q.length, Option.none⟩ (.int .i64 (x : Nat))) DB n dist (Q ++ [x]) :=
  ⟨(h.bel.alloc h.le _).setCell (by show DB ≤ DB + 1; omega) _, (h.row.alloc _).of_block (heap_setCell_other _ _ _ _ (by show DB ≠ DB + 1; omega)), h.q.append hlt rfl⟩

theorem codeS20 : (stm Try.f5.body 20) = .seq (headC (stm Try.f5.body 20)) (.block 4 (.loop (innerC (innerC (tailC (stm Try.f5.body 20)))))) := rfl
theorem codeL4 : (innerC (innerC (tailC (stm Try.f5.body 20)))) = .seq (headC (innerC (innerC (tailC (stm Try.f5.body 20))))) (.seq (.block 5 (.seq (headC (innerC (headC (tailC (innerC (innerC (tailC (stm Try.f5.body 20)))))))) (.seq (headC (tailC (innerC (headC (tailC (innerC (innerC (tailC (stm Try.f5.body 20))))))))) (.block 6 (.loop (innerC (innerC (tailC (tailC (innerC (headC (tailC (innerC (innerC (tailC (stm Try.f5.body 20)))))))))))))))) (tailC (tailC (innerC (innerC (tailC (stm Try.f5.body 20))))))) := rfl
theorem codeBL6 : (innerC (innerC (tailC (tailC (innerC (headC (tailC (innerC (innerC (tailC (stm Try.f5.body 20))))))))))) = .seq (headC (innerC (innerC (tailC (tailC (innerC (headC (tailC (innerC (innerC (tailC (stm Try.f5.body 20)))))))))))) (.seq (headC (tailC (innerC (innerC (tailC (tailC (innerC (headC (tailC (innerC (innerC (tailC (stm Try.f5.body 20))))))))))))) (.seq (.block 7 (.seq (headC (innerC (headC (tailC (tailC (innerC (innerC (tailC (tailC (innerC (headC (tailC (innerC (innerC (tailC (stm Try.f5.body 20)))))))))))))))) (.seq (headC (tailC (innerC (headC (tailC (tailC (innerC (innerC (tailC (tailC (innerC (headC (tailC (innerC (innerC (tailC (stm Try.f5.body 20))))))))))))))))) (.cond (.tmp 136) (condT (tailC (tailC (innerC (headC (tailC (tailC (innerC (innerC (tailC (tailC (innerC (headC (tailC (innerC (innerC (tailC (stm Try.f5.body 20)))))))))))))))))) .skip)))) (tailC (tailC (tailC (innerC (innerC (tailC (tailC (innerC (headC (tailC (innerC (innerC (tailC (stm Try.f5.body 20)))))))))))))))) := rfl
theorem codeTC : (condT (tailC (tailC (innerC (headC (tailC (tailC (innerC (innerC (tailC (tailC (innerC (headC (tailC (innerC (innerC (tailC (stm Try.f5.body 20)))))))))))))))))) = .seq (headC (condT (tailC (tailC (innerC (headC (tailC (tailC (innerC (innerC (tailC (tailC (innerC (headC (tailC (innerC (innerC (tailC (stm Try.f5.body 20))))))))))))))))))) (tailC (condT (tailC (tailC (innerC (headC (tailC (tailC (innerC (innerC (tailC (tailC (innerC (headC (tailC (innerC (innerC (tailC (stm Try.f5.body 20))))))))))))))))))) := rfl

/-- Where the outer loop stands. -/
def LcO (W : World) (DB n s : Nat) (na oa ra : Option Addr) (nc oc rc : Nat) (s5 : Value) (out : Nat → List Nat) (g : Nat) (a : Act) (w : World) : Prop :=
  ∃ (h : Nat) (Q : List Nat) (dist : Nat → Int) (s15 s17 s126 s127 s128 : Value), g = n - h ∧ RInv out s Q h [] dist ∧ (∀ x, -1 ≤ dist x ∧ dist x < (Q.length : Int)) ∧ (∀ x, x ∈ Q → x < n) ∧ D1 W w DB n dist Q ∧ Fr5c a (.slice na n nc) (.slice oa n oc) (s5) (.int .i64 (n : Nat)) (.int .i64 (s : Nat)) (.slice ra n rc) (.slice (some ⟨DB, 0, Option.none⟩) n n) (.slice (some ⟨(DB + 1), 0, Option.none⟩) Q.length n) (.int .i64 (h : Nat)) (s15) (s17) (s126) (s127) (s128)
/-- Where the inner loop stands. -/
def LcI (W : World) (DB n s : Nat) (na oa ra : Option Addr) (nc oc rc : Nat) (s5 : Value) (out : Nat → List Nat) (R : Nat → List Nat) (A : Nat → Option Addr) (C : Nat → Nat) (h v : Nat) (g : Nat) (a : Act) (w : World) : Prop :=
  ∃ (k : Nat) (Q : List Nat) (dist : Nat → Int) (s17 : Value), g = (R v).length - k ∧ k ≤ (R v).length ∧ h < Q.length ∧ Q.getD h 0 = v ∧ RInv out s Q h ((R v).take k) dist ∧ (∀ x, -1 ≤ dist x ∧ dist x < (Q.length : Int)) ∧ (∀ x, x ∈ Q → x < n) ∧ D1 W w DB n dist Q ∧ Fr5c a (.slice na n nc) (.slice oa n oc) (s5) (.int .i64 (n : Nat)) (.int .i64 (s : Nat)) (.slice ra n rc) (.slice (some ⟨DB, 0, Option.none⟩) n n) (.slice (some ⟨(DB + 1), 0, Option.none⟩) Q.length n) (.int .i64 (h : Nat)) (.int .i64 (v : Nat)) (s17) (.slice (A v) (R v).length (C v)) (.int .i64 ((R v).length : Nat)) (.int .i64 (k : Nat))

theorem lcRow {W w : World} {DB n s : Nat} {na oa ra : Option Addr} {nc oc rc : Nat} {s5 : Value} {out R : Nat → List Nat} {A : Nat → Option Addr} {C : Nat → Nat} {a : Act} {Q' : Exit → Act → World → Prop} {h v g : Nat} (hn : n ≤ 65536) (hgr : Gr W ra n rc A C R) (hH : W.heap.size = DB) (hR : ∀ x, x < n → ∀ u, u ∈ R x ↔ u < n ∧ x ∈ out u) (hRl : ∀ x, x < n → (R x).length ≤ 1099511627776) (hrow : ∀ v w, EO out v w → v < n) (hv : v < n) (hg : LcI W DB n s na oa ra nc oc rc s5 out R A C h v g a w)
    (hZ : ∀ a' w' g', g' < g → LcI W DB n s na oa ra nc oc rc s5 out R A C h v g' a' w' → Q' .normal a' w')
    (hE : ∀ a' w' Q dist s15 s17 s126 s127 s128, h < Q.length → RInv out s Q (h + 1) [] dist ∧ (∀ x, -1 ≤ dist x ∧ dist x < (Q.length : Int)) ∧ (∀ x, x ∈ Q → x < n) ∧ D1 W w' DB n dist Q → Fr5c a' (.slice na n nc) (.slice oa n oc) (s5) (.int .i64 (n : Nat)) (.int .i64 (s : Nat)) (.slice ra n rc) (.slice (some ⟨DB, 0, Option.none⟩) n n) (.slice (some ⟨(DB + 1), 0, Option.none⟩) Q.length n) (.int .i64 (h : Nat)) (s15) (s17) (s126) (s127) (s128) → Q' (.exit 6) a' w') :
    Code.wp Try.prog (innerC (innerC (tailC (tailC (innerC (headC (tailC (innerC (innerC (tailC (stm Try.f5.body 20))))))))))) Q' a w := by
  obtain ⟨k, Q, dist, s17, rfl, hk, hlt, hvv, hI, hd, hQ, hM, h1⟩ := hg
  have hbG : ∀ {w' : World}, Below DB W w' → Gr w' ra n rc A C R := fun h => RowsAt.below hgr (by rw [hH]; exact h)
  have hQl : Q.length ≤ n := nodup_len n Q hI.nd hQ
  rw [codeBL6]
  refine lc38 _ h1 (fun hkl a2 h2 => ?_) (fun hkl a2 h2 => ?_)
  rotate_left
  · obtain rfl : k = (R v).length := by omega
    rw [List.take_length] at hI
    refine hE a2 w Q dist _ _ _ _ _ hlt ⟨hI.next hlt (fun u hu => ?_), hd, hQ, hM⟩ h2
    rw [hvv] at hu
    exact (hR v hv u).2 ⟨hrow u v hu, hu⟩
  have hmem : (R v).getD k 0 ∈ R v := mem_getD hkl
  obtain ⟨hxn, hxE⟩ := (hR v hv _).1 hmem
  have htk := take_getD hkl
  refine wp_seq (wp_block (wp_seq (lc39 hkl (Gr.at (hbG hM.bel) hv hkl) h2 fun a3 h3 => ?_)))
  generalize (R v).getD k 0 = x at *
  refine lc40 _ _ hxn (hM.row.cell hxn) h3 (fun hc a4 h4 => ?_) (fun hc a4 h4 => ?_)
  · rw [codeTC]
    have hdv : 0 ≤ dist v := (hI.mem v).2 (by rw [← hvv]; exact mem_getD hlt)
    have hdv2 := (hd v).2
    refine wp_seq (lc41 hxn hv hdv (by omega) (hM.row.cell hv) (by rw [hM.row.cell hxn]; rfl) (hM.row.frozen _) h4 fun a5 h5 => ?_)
    have hM2 := hM.set x (dist v + 1)
    generalize w.setCell ⟨DB, x, Option.none⟩ (.int .i64 (dist v + 1)) = w2 at hM2 h5 ⊢
    have hI2 := hI.add hlt (u := x) (by rw [hvv]; exact hxE) hc
    rw [hvv] at hI2
    have hQ2 : ∀ y, y ∈ Q ++ [x] → y < n := fun y hy => by
      rcases List.mem_append.1 hy with hy | hy
      · exact hQ y hy
      · simp at hy; subst hy; exact hxn
    have hQl2 : Q.length < n := by
      have h0 := nodup_len n _ hI2.nd hQ2
      simp at h0
      omega
    refine lc42 (hM2.q.run hQl2 ((x : Nat) : Int)) h5 fun a6 h6 => ?_
    have hM3 := hM2.push hQl2 x
    refine lc43 hkl (hRl v hv) h6 fun a7 h7 => ?_
    refine hZ _ _ ((R v).length - (k + 1)) (by omega) ⟨k + 1, Q ++ [x], _, .int .i64 (x : Nat), rfl, hkl, by simp; omega, by rw [getD_append_left hlt]; exact hvv, by rw [htk]; exact hI2, fun y => ?_, hQ2, hM3, ?_⟩
    · rw [List.length_append]
      by_cases e : y = x
      · subst e; rw [updI_same]; simp; omega
      · rw [updI_other _ _ e]; have := hd y; simp; omega
    · rw [List.length_append]; exact h7
  · refine wp_skip (lc43 hkl (hRl v hv) h4 fun a7 h7 => ?_)
    exact hZ _ _ ((R v).length - (k + 1)) (by omega) ⟨k + 1, Q, dist, _, rfl, hkl, hlt, hvv, by rw [htk]; exact hI.seen hlt (by omega), hd, hQ, hM, h7⟩

theorem lcBfs {W w : World} {DB n s : Nat} {na oa ra : Option Addr} {nc oc rc : Nat} {s5 : Value} {out R : Nat → List Nat} {A : Nat → Option Addr} {C : Nat → Nat} {a : Act} {Q' : Exit → Act → World → Prop} {s14 s15 s17 s126 s127 s128 : Value} (hn : n ≤ 65536) (hgr : Gr W ra n rc A C R) (hH : W.heap.size = DB) (hR : ∀ x, x < n → ∀ u, u ∈ R x ↔ u < n ∧ x ∈ out u) (hRl : ∀ x, x < n → (R x).length ≤ 1099511627776) (hrow : ∀ v w, EO out v w → v < n) (hs : s < n)
    (hM : D1 W w DB n (updI (fun _ => -1) s 0) [s])
    (h0 : Fr5c a (.slice na n nc) (.slice oa n oc) (s5) (.int .i64 (n : Nat)) (.int .i64 (s : Nat)) (.slice ra n rc) (.slice (some ⟨DB, 0, Option.none⟩) n n) (.slice (some ⟨(DB + 1), 0, Option.none⟩) 1 n) (s14) (s15) (s17) (s126) (s127) (s128))
    (hZ : ∀ a' w' dist s14 s15 s17 s126 s127 s128 Q, Dist out s dist → (∀ x, -1 ≤ dist x ∧ dist x < (n : Int)) → D1 W w' DB n dist Q → Fr5c a' (.slice na n nc) (.slice oa n oc) (s5) (.int .i64 (n : Nat)) (.int .i64 (s : Nat)) (.slice ra n rc) (.slice (some ⟨DB, 0, Option.none⟩) n n) (.slice (some ⟨(DB + 1), 0, Option.none⟩) Q.length n) (s14) (s15) (s17) (s126) (s127) (s128) → Q' .normal a' w') :
    Code.wp Try.prog (stm Try.f5.body 20) Q' a w := by
  rw [codeS20]
  refine wp_seq (lc33 h0 fun a1 h1 => ?_)
  refine wp_block (wp_loop_ghost (LcO W DB n s na oa ra nc oc rc s5 out) n ⟨0, [s], _, _, _, _, _, _, rfl, RInv.start out s, fun x => ?_, fun x hx => by simp at hx; subst hx; exact hs, hM, h1⟩ ?_)
  · by_cases e : x = s
    · subst e; rw [updI_same]; simp
    · rw [updI_other _ _ e]; simp
  clear hM h0 h1
  rintro g a1 w1 ⟨h, Q, dist, s15, s17, s126, s127, s128, rfl, hI, hd, hQ, hM, h1⟩
  have hbG : ∀ {w' : World}, Below DB W w' → Gr w' ra n rc A C R := fun h => RowsAt.below hgr (by rw [hH]; exact h)
  have hQl : Q.length ≤ n := nodup_len n Q hI.nd hQ
  rw [codeL4]
  refine wp_seq (lc34 h1 (fun hlt a2 h2 => ?_) (fun hlt a2 h2 => ?_))
  rotate_left
  · obtain rfl : h = Q.length := by have := hI.hq; omega
    exact then_hit2 (hZ _ _ _ _ _ _ _ _ _ _ hI.gives (fun x => ⟨(hd x).1, by have := (hd x).2; omega⟩) hM h2)
  have hv : Q.getD h 0 < n := hQ _ (mem_getD hlt)
  refine wp_seq (wp_block (wp_seq (lc36 hlt (hM.q.cell hlt) h2 fun a3 h3 => wp_seq (lc37 hv (Gr.row (hbG hM.bel) hv) h3 fun a4 h4 => ?_))))
  refine wp_block (wp_loop_ghost (LcI W DB n s na oa ra nc oc rc s5 out R A C h (Q.getD h 0)) (R (Q.getD h 0)).length ⟨0, Q, dist, _, rfl, Nat.zero_le _, hlt, rfl, by rw [List.take_zero]; exact hI, hd, hQ, hM, h4⟩ ?_)
  intro g2 a5 w5 hg
  refine lcRow hn hgr hH hR hRl hrow hv hg (fun a' w' g' hl hi => ⟨g', hl, hi⟩) (fun a' w' Q dist s15 s17 s126 s127 s128 hlt' gI g5 => ?_)
  obtain ⟨g1, g2, g3, g4⟩ := gI
  refine then_hit (lc35 (by omega) g5 fun a6 h6 => ?_)
  exact ⟨n - (h + 1), by omega, h + 1, Q, dist, _, _, _, _, _, rfl, g1, g2, g3, g4, h6⟩

end Go.Proofs.Qxb6602460a
