import Derived.Test.Qxb6602460aSccK
import Derived.Test.Qxb6602460aSc2A
import Derived.Test.Qxb6602460aSc2B
namespace Go.Proofs.Qxb6602460a
open Go.RowKit Go.Maps Go.Own

/-- What the second pass keeps in memory. -/
structure C1 (W w : World) (CB n : Nat) (comp : Nat → Int) (size work : List Nat) : Prop where
  bel : Below CB W w
  comp : w.rowIs CB 3 n (fun i => .int .i64 (comp i))
  size : Bl w (CB + 1) n size
  work : Bl w (CB + 2) n work

variable {W w : World} {CB n : Nat} {comp : Nat → Int} {size work : List Nat}

theorem C1.le (h : C1 W w CB n comp size work) : CB ≤ w.heap.size := Nat.le_of_lt h.comp.lt

theorem C1.setComp (h : C1 W w CB n comp size work) (x : Nat) (k : Int) : C1 W (w.setCell ⟨CB, x, Option.none⟩ (.int .i64 k)) CB n (updI comp x k) size work :=
  ⟨h.bel.setCell (Nat.le_refl _) _, (h.comp.set x _).congr fun i _ => by unfold updI; split <;> rfl, h.size.setOther (by show CB + 1 ≠ CB; omega) _, h.work.setOther (by show CB + 2 ≠ CB; omega) _⟩

theorem C1.pushSize (h : C1 W w CB n comp size work) (hlt : size.length < n) (x : Nat) {z : Int} (hz : z = (x : Nat)) : C1 W ((w.alloc (.cells #[.int .i64 z] 3)).setCell ⟨CB + 1, size.length, Option.none⟩ (.int .i64 z)) CB n comp (size ++ [x]) work :=
  ⟨(h.bel.alloc h.le _).setCell (by show CB ≤ CB + 1; omega) _, (h.comp.alloc _).of_block (heap_setCell_other _ _ _ _ (by show CB ≠ CB + 1; omega)), h.size.append hlt hz, (h.work.alloc _).setOther (by show CB + 2 ≠ CB + 1; omega) _⟩

theorem C1.pushWork (h : C1 W w CB n comp size work) (hlt : work.length < n) (x : Nat) {z : Int} (hz : z = (x : Nat)) : C1 W ((w.alloc (.cells #[.int .i64 z] 3)).setCell ⟨CB + 2, work.length, Option.none⟩ (.int .i64 z)) CB n comp size (work ++ [x]) :=
  ⟨(h.bel.alloc h.le _).setCell (by show CB ≤ CB + 2; omega) _, (h.comp.alloc _).of_block (heap_setCell_other _ _ _ _ (by show CB ≠ CB + 2; omega)), (h.size.alloc _).setOther (by show CB + 1 ≠ CB + 2; omega) _, h.work.append hlt hz⟩

theorem C1.bumpSize {p y : Nat} (h : C1 W w CB n comp (size ++ [p]) work) {z : Int} (hz : z = (y : Nat)) : C1 W (w.setCell ⟨CB + 1, size.length, Option.none⟩ (.int .i64 z)) CB n comp (size ++ [y]) work :=
  ⟨h.bel.setCell (by show CB ≤ CB + 1; omega) _, h.comp.of_block (heap_setCell_other _ _ _ _ (by show CB ≠ CB + 1; omega)), h.size.set hz, h.work.setOther (by show CB + 2 ≠ CB + 1; omega) _⟩

theorem C1.cutWork {ws t : List Nat} (h : C1 W w CB n comp size (ws ++ t)) : C1 W w CB n comp size ws := ⟨h.bel, h.comp, h.size, Bl.cut h.work⟩

theorem codeL6 : (innerC (innerC (tailC (stm Try.f15.body 12)))) = .seq (headC (innerC (innerC (tailC (stm Try.f15.body 12))))) (.seq (.block 7 (innerC (headC (tailC (innerC (innerC (tailC (stm Try.f15.body 12)))))))) (tailC (tailC (innerC (innerC (tailC (stm Try.f15.body 12))))))) := rfl
theorem codeS12 : (stm Try.f15.body 12) = .seq (headC (stm Try.f15.body 12)) (.block 6 (.loop (innerC (innerC (tailC (stm Try.f15.body 12)))))) := rfl
theorem codeI7 : (innerC (headC (tailC (innerC (innerC (tailC (stm Try.f15.body 12))))))) = .seq (headC (innerC (headC (tailC (innerC (innerC (tailC (stm Try.f15.body 12)))))))) (.seq (.seq (headC (headC (tailC (innerC (headC (tailC (innerC (innerC (tailC (stm Try.f15.body 12)))))))))) (.cond (.tmp 145) (.exit 7) .skip)) (.seq (headC (tailC (tailC (innerC (headC (tailC (innerC (innerC (tailC (stm Try.f15.body 12)))))))))) (.seq (headC (tailC (tailC (tailC (innerC (headC (tailC (innerC (innerC (tailC (stm Try.f15.body 12))))))))))) (.seq (headC (tailC (tailC (tailC (tailC (innerC (headC (tailC (innerC (innerC (tailC (stm Try.f15.body 12)))))))))))) (.seq (headC (tailC (tailC (tailC (tailC (tailC (innerC (headC (tailC (innerC (innerC (tailC (stm Try.f15.body 12))))))))))))) (.seq (headC (tailC (tailC (tailC (tailC (tailC (tailC (innerC (headC (tailC (innerC (innerC (tailC (stm Try.f15.body 12)))))))))))))) (.block 8 (.loop (innerC (innerC (tailC (tailC (tailC (tailC (tailC (tailC (tailC (innerC (headC (tailC (innerC (innerC (tailC (stm Try.f15.body 12)))))))))))))))))))))))) := rfl
theorem codeL8 : (innerC (innerC (tailC (tailC (tailC (tailC (tailC (tailC (tailC (innerC (headC (tailC (innerC (innerC (tailC (stm Try.f15.body 12)))))))))))))))) = .seq (headC (innerC (innerC (tailC (tailC (tailC (tailC (tailC (tailC (tailC (innerC (headC (tailC (innerC (innerC (tailC (stm Try.f15.body 12))))))))))))))))) (.block 9 (innerC (tailC (innerC (innerC (tailC (tailC (tailC (tailC (tailC (tailC (tailC (innerC (headC (tailC (innerC (innerC (tailC (stm Try.f15.body 12))))))))))))))))))) := rfl
theorem codeI9 : (innerC (tailC (innerC (innerC (tailC (tailC (tailC (tailC (tailC (tailC (tailC (innerC (headC (tailC (innerC (innerC (tailC (stm Try.f15.body 12)))))))))))))))))) = .seq (headC (innerC (tailC (innerC (innerC (tailC (tailC (tailC (tailC (tailC (tailC (tailC (innerC (headC (tailC (innerC (innerC (tailC (stm Try.f15.body 12))))))))))))))))))) (.seq (headC (tailC (innerC (tailC (innerC (innerC (tailC (tailC (tailC (tailC (tailC (tailC (tailC (innerC (headC (tailC (innerC (innerC (tailC (stm Try.f15.body 12)))))))))))))))))))) (.seq (headC (tailC (tailC (innerC (tailC (innerC (innerC (tailC (tailC (tailC (tailC (tailC (tailC (tailC (innerC (headC (tailC (innerC (innerC (tailC (stm Try.f15.body 12))))))))))))))))))))) (.seq (headC (tailC (tailC (tailC (innerC (tailC (innerC (innerC (tailC (tailC (tailC (tailC (tailC (tailC (tailC (innerC (headC (tailC (innerC (innerC (tailC (stm Try.f15.body 12)))))))))))))))))))))) (.seq (headC (tailC (tailC (tailC (tailC (innerC (tailC (innerC (innerC (tailC (tailC (tailC (tailC (tailC (tailC (tailC (innerC (headC (tailC (innerC (innerC (tailC (stm Try.f15.body 12))))))))))))))))))))))) (.block 10 (.loop (innerC (innerC (tailC (tailC (tailC (tailC (tailC (innerC (tailC (innerC (innerC (tailC (tailC (tailC (tailC (tailC (tailC (tailC (innerC (headC (tailC (innerC (innerC (tailC (stm Try.f15.body 12))))))))))))))))))))))))))))))) := rfl
theorem codeL10 : (innerC (innerC (tailC (tailC (tailC (tailC (tailC (innerC (tailC (innerC (innerC (tailC (tailC (tailC (tailC (tailC (tailC (tailC (innerC (headC (tailC (innerC (innerC (tailC (stm Try.f15.body 12))))))))))))))))))))))))) = .seq (headC (innerC (innerC (tailC (tailC (tailC (tailC (tailC (innerC (tailC (innerC (innerC (tailC (tailC (tailC (tailC (tailC (tailC (tailC (innerC (headC (tailC (innerC (innerC (tailC (stm Try.f15.body 12)))))))))))))))))))))))))) (.seq (.block 11 (.seq (headC (innerC (headC (tailC (innerC (innerC (tailC (tailC (tailC (tailC (tailC (innerC (tailC (innerC (innerC (tailC (tailC (tailC (tailC (tailC (tailC (tailC (innerC (headC (tailC (innerC (innerC (tailC (stm Try.f15.body 12))))))))))))))))))))))))))))) (.seq (headC (tailC (innerC (headC (tailC (innerC (innerC (tailC (tailC (tailC (tailC (tailC (innerC (tailC (innerC (innerC (tailC (tailC (tailC (tailC (tailC (tailC (tailC (innerC (headC (tailC (innerC (innerC (tailC (stm Try.f15.body 12)))))))))))))))))))))))))))))) (.cond (.tmp 201) (condT (tailC (tailC (innerC (headC (tailC (innerC (innerC (tailC (tailC (tailC (tailC (tailC (innerC (tailC (innerC (innerC (tailC (tailC (tailC (tailC (tailC (tailC (tailC (innerC (headC (tailC (innerC (innerC (tailC (stm Try.f15.body 12))))))))))))))))))))))))))))))) .skip)))) (tailC (tailC (innerC (innerC (tailC (tailC (tailC (tailC (tailC (innerC (tailC (innerC (innerC (tailC (tailC (tailC (tailC (tailC (tailC (tailC (innerC (headC (tailC (innerC (innerC (tailC (stm Try.f15.body 12)))))))))))))))))))))))))))) := rfl
theorem codeT55 : (condT (tailC (tailC (innerC (headC (tailC (innerC (innerC (tailC (tailC (tailC (tailC (tailC (innerC (tailC (innerC (innerC (tailC (tailC (tailC (tailC (tailC (tailC (tailC (innerC (headC (tailC (innerC (innerC (tailC (stm Try.f15.body 12))))))))))))))))))))))))))))))) = .seq (headC (condT (tailC (tailC (innerC (headC (tailC (innerC (innerC (tailC (tailC (tailC (tailC (tailC (innerC (tailC (innerC (innerC (tailC (tailC (tailC (tailC (tailC (tailC (tailC (innerC (headC (tailC (innerC (innerC (tailC (stm Try.f15.body 12)))))))))))))))))))))))))))))))) (tailC (condT (tailC (tailC (innerC (headC (tailC (innerC (innerC (tailC (tailC (tailC (tailC (tailC (innerC (tailC (innerC (innerC (tailC (tailC (tailC (tailC (tailC (tailC (tailC (innerC (headC (tailC (innerC (innerC (tailC (stm Try.f15.body 12)))))))))))))))))))))))))))))))) := rfl

/-- Where the gathering of v's row stands. -/
def GI (W : World) (CB n b5 m5 : Nat) (ra : Option Addr) (rc : Nat) (out R : Nat → List Nat) (A : Nat → Option Addr) (C : Nat → Nat) (r : Nat) (c0 : Nat → Int) (size pp : List Nat) (q v : Nat) (g : Nat) (a : Act) (w : World) : Prop :=
  ∃ (j : Nat) (ws : List Nat) (comp : Nat → Int) (s24 : Value), g = (R v).length - j ∧ j ≤ (R v).length ∧ GInv out r c0 size.length pp (v :: ws) comp ∧ (∀ x, x ∈ pp ++ v :: ws → x < n) ∧ (∀ u, u ∈ (R v).take j → 0 ≤ comp u) ∧ C1 W w CB n comp (size ++ [pp.length + 1]) ws ∧ Fr15b a (.int .i64 (n : Nat)) (.slice (some ⟨b5, 0, Option.none⟩) m5 n) (.slice ra n rc) (.slice (some ⟨CB, 0, Option.none⟩) n n) (.slice (some ⟨(CB + 1), 0, Option.none⟩) (size.length + 1) n) (.slice (some ⟨(CB + 2), 0, Option.none⟩) ws.length n) (.int .i64 (q : Nat)) (.int .i64 (r : Nat)) (.int .i64 (size.length : Nat)) (.int .i64 (v : Nat)) (.slice (A v) (R v).length (C v)) (.int .i64 (j : Nat)) (s24)

/-- Where the gathering of a component stands. -/
def GM (W : World) (CB n b5 m5 : Nat) (ra : Option Addr) (rc : Nat) (out : Nat → List Nat) (r : Nat) (c0 : Nat → Int) (size : List Nat) (q : Nat) (g : Nat) (a : Act) (w : World) : Prop :=
  ∃ (pp ws : List Nat) (comp : Nat → Int) (s21 s22 s23 s24 : Value), g = n - pp.length ∧ GInv out r c0 size.length pp ws comp ∧ (∀ x, x ∈ pp ++ ws → x < n) ∧ C1 W w CB n comp (size ++ [pp.length]) ws ∧ Fr15b a (.int .i64 (n : Nat)) (.slice (some ⟨b5, 0, Option.none⟩) m5 n) (.slice ra n rc) (.slice (some ⟨CB, 0, Option.none⟩) n n) (.slice (some ⟨(CB + 1), 0, Option.none⟩) (size.length + 1) n) (.slice (some ⟨(CB + 2), 0, Option.none⟩) ws.length n) (.int .i64 (q : Nat)) (.int .i64 (r : Nat)) (.int .i64 (size.length : Nat)) (s21) (s22) (s23) (s24)

/-- Where the second pass stands. -/
def GO (W : World) (CB n b5 m5 : Nat) (ra : Option Addr) (rc : Nat) (out : Nat → List Nat) (fin : List Nat) (g : Nat) (a : Act) (w : World) : Prop :=
  ∃ (m : Nat) (comp : Nat → Int) (size work : List Nat) (s19 s20 s21 s22 s23 s24 : Value), g = m ∧ m ≤ fin.length ∧ CInv out n fin m comp size ∧ size.length + m ≤ n ∧ C1 W w CB n comp size work ∧ Fr15b a (.int .i64 (n : Nat)) (.slice (some ⟨b5, 0, Option.none⟩) m5 n) (.slice ra n rc) (.slice (some ⟨CB, 0, Option.none⟩) n n) (.slice (some ⟨(CB + 1), 0, Option.none⟩) size.length n) (.slice (some ⟨(CB + 2), 0, Option.none⟩) work.length n) (.int .i64 ((m : Int) - 1)) (s19) (s20) (s21) (s22) (s23) (s24)

theorem gdRow {W w : World} {CB n b5 m5 : Nat} {ra : Option Addr} {rc : Nat} {out R : Nat → List Nat} {A : Nat → Option Addr} {C : Nat → Nat} {a : Act} {Q' : Exit → Act → World → Prop} {r q v g : Nat} {c0 : Nat → Int} {size pp : List Nat} (hgr : Gr W ra n rc A C R) (hH : W.heap.size = CB) (hR : ∀ x, x < n → ∀ u, u ∈ R x ↔ u < n ∧ x ∈ out u) (hRl : ∀ x, x < n → (R x).length ≤ 1099511627776) (hrow : ∀ v w, EO out v w → v < n) (hv : v < n) (hg : GI W CB n b5 m5 ra rc out R A C r c0 size pp q v g a w)
    (hZ : ∀ a' w' g', g' < g → GI W CB n b5 m5 ra rc out R A C r c0 size pp q v g' a' w' → Q' .normal a' w')
    (hE : ∀ a' w' ws comp s21 s22 s23 s24, GInv out r c0 size.length (pp ++ [v]) ws comp → (∀ x, x ∈ (pp ++ [v]) ++ ws → x < n) → C1 W w' CB n comp (size ++ [(pp ++ [v]).length]) ws → Fr15b a' (.int .i64 (n : Nat)) (.slice (some ⟨b5, 0, Option.none⟩) m5 n) (.slice ra n rc) (.slice (some ⟨CB, 0, Option.none⟩) n n) (.slice (some ⟨(CB + 1), 0, Option.none⟩) (size.length + 1) n) (.slice (some ⟨(CB + 2), 0, Option.none⟩) ws.length n) (.int .i64 (q : Nat)) (.int .i64 (r : Nat)) (.int .i64 (size.length : Nat)) (s21) (s22) (s23) (s24) → Q' (.exit 10) a' w') :
    Code.wp Try.prog (innerC (innerC (tailC (tailC (tailC (tailC (tailC (innerC (tailC (innerC (innerC (tailC (tailC (tailC (tailC (tailC (tailC (tailC (innerC (headC (tailC (innerC (innerC (tailC (stm Try.f15.body 12))))))))))))))))))))))))) Q' a w := by
  obtain ⟨j, ws, comp, s24, rfl, hj, hG, hlt, hall, hC, h1⟩ := hg
  have hbG : ∀ {w' : World}, Below CB W w' → Gr w' ra n rc A C R := fun h => RowsAt.below hgr (by rw [hH]; exact h)
  rw [codeL10]
  refine wp_seq (sd51 h1 (fun hjl a2 h2 => ?_) (fun hjl a2 h2 => ?_))
  rotate_left
  · obtain rfl : j = (R v).length := by omega
    rw [List.take_length] at hall
    refine hE a2 w ws comp _ _ _ _ (hG.take fun u hu => hall u ((hR v hv u).2 ⟨hrow u v hu, hu⟩)) (fun x hx => hlt x (by simpa using hx)) (by rw [List.length_append]; exact hC) h2
  have hmem : (R v).getD j 0 ∈ R v := mem_getD hjl
  obtain ⟨hxn, hxE⟩ := (hR v hv _).1 hmem
  have htk := take_getD hjl
  refine wp_seq (wp_block (wp_seq (sd53 hjl (Gr.at (hbG hC.bel) hv hjl) h2 fun a3 h3 => ?_)))
  generalize (R v).getD j 0 = x at *
  refine sd54 _ _ hxn (hC.comp.cell hxn) h3 (fun hc a4 h4 => ?_) (fun hc a4 h4 => ?_)
  · rw [codeT55]
    refine wp_seq (sd55 hxn (by rw [hC.comp.cell hxn]; rfl) (hC.comp.frozen _) h4 fun a5 h5 => ?_)
    have hC2 := hC.setComp x ((size.length : Nat) : Int)
    generalize w.setCell ⟨CB, x, Option.none⟩ (.int .i64 ((size.length : Nat) : Int)) = w2 at hC2 h5 ⊢
    have hk0 : (0 : Int) ≤ ((size.length : Nat) : Int) := by omega
    have hG2 := hG.add hk0 ((hG.new v).2 (by simp)) hxE hc
    have hlt2 : ∀ y, y ∈ pp ++ (v :: ws ++ [x]) → y < n := fun y hy => by
      rcases List.mem_append.1 hy with hy | hy
      · exact hlt y (List.mem_append.2 (.inl hy))
      · rcases List.mem_append.1 hy with hy | hy
        · exact hlt y (List.mem_append.2 (.inr hy))
        · simp at hy; subst hy; exact hxn
    have hwl : ws.length < n := by
      have h0 := nodup_len n _ hG2.nd hlt2
      simp at h0
      omega
    refine sd56 (hC2.work.run hwl ((x : Nat) : Int)) h5 fun a6 h6 => ?_
    have hC3 := hC2.pushWork hwl x rfl
    refine sd52 hjl (hRl v hv) h6 fun a7 h7 => ?_
    refine hZ _ _ ((R v).length - (j + 1)) (by omega) ⟨j + 1, ws ++ [x], _, .int .i64 (x : Nat), rfl, hjl, hG2, hlt2, fun u hu => ?_, hC3, ?_⟩
    · rw [htk] at hu
      rcases List.mem_append.1 hu with hu | hu
      · by_cases e : u = x
        · subst e; rw [updI_same]; exact hk0
        · rw [updI_other _ _ e]; exact hall u hu
      · simp at hu; subst hu; rw [updI_same]; exact hk0
    · rw [List.length_append]; exact h7
  · refine wp_skip (sd52 hjl (hRl v hv) h4 fun a7 h7 => ?_)
    refine hZ _ _ ((R v).length - (j + 1)) (by omega) ⟨j + 1, ws, comp, _, rfl, hjl, hG, hlt, fun u hu => ?_, hC, h7⟩
    rw [htk] at hu
    rcases List.mem_append.1 hu with hu | hu
    · exact hall u hu
    · simp at hu; subst hu; omega

theorem gdRound {W w : World} {CB n b5 m5 : Nat} {ra : Option Addr} {rc : Nat} {out R : Nat → List Nat} {A : Nat → Option Addr} {C : Nat → Nat} {a : Act} {Q' : Exit → Act → World → Prop} {r q g : Nat} {c0 : Nat → Int} {size : List Nat} (hn : n ≤ 65536) (hgr : Gr W ra n rc A C R) (hH : W.heap.size = CB) (hR : ∀ x, x < n → ∀ u, u ∈ R x ↔ u < n ∧ x ∈ out u) (hRl : ∀ x, x < n → (R x).length ≤ 1099511627776) (hrow : ∀ v w, EO out v w → v < n) (hg : GM W CB n b5 m5 ra rc out r c0 size q g a w)
    (hZ : ∀ a' w' g', g' < g → GM W CB n b5 m5 ra rc out r c0 size q g' a' w' → Q' .normal a' w')
    (hE : ∀ a' w' pp comp s21 s22 s23 s24, GInv out r c0 size.length pp [] comp → C1 W w' CB n comp (size ++ [pp.length]) [] → Fr15b a' (.int .i64 (n : Nat)) (.slice (some ⟨b5, 0, Option.none⟩) m5 n) (.slice ra n rc) (.slice (some ⟨CB, 0, Option.none⟩) n n) (.slice (some ⟨(CB + 1), 0, Option.none⟩) (size.length + 1) n) (.slice (some ⟨(CB + 2), 0, Option.none⟩) 0 n) (.int .i64 (q : Nat)) (.int .i64 (r : Nat)) (.int .i64 (size.length : Nat)) (s21) (s22) (s23) (s24) → Q' (.exit 8) a' w') :
    Code.wp Try.prog (innerC (innerC (tailC (tailC (tailC (tailC (tailC (tailC (tailC (innerC (headC (tailC (innerC (innerC (tailC (stm Try.f15.body 12)))))))))))))))) Q' a w := by
  obtain ⟨pp, ws', comp, s21, s22, s23, s24, rfl, hG, hlt, hC, h1⟩ := hg
  have hbG : ∀ {w' : World}, Below CB W w' → Gr w' ra n rc A C R := fun h => RowsAt.below hgr (by rw [hH]; exact h)
  rw [codeL8]
  refine wp_seq (sd45 h1 (fun hm a2 h2 => ?_) (fun hm a2 h2 => ?_))
  rotate_left
  · obtain rfl : ws' = [] := List.length_eq_zero_iff.1 (by omega)
    exact hE a2 w pp comp _ _ _ _ hG hC h2
  rcases List.eq_nil_or_concat ws' with rfl | ⟨ws, v, e1⟩
  · simp at hm
  rw [List.concat_eq_append] at e1
  subst e1
  have hv : v < n := hlt v (by simp)
  have hwl : ws.length + 1 ≤ n := by have := hC.work.1; simpa using this
  have hdv : w.cell? ⟨CB + 2, ws.length, Option.none⟩ = some (.int .i64 (v : Nat)) := by
    rw [hC.work.cell (i := ws.length) (by simp), getD_append_last]
  rw [List.length_append] at h2
  have hG2 : GInv out r c0 size.length pp (v :: ws) comp := hG.perm (List.perm_append_comm (l₁ := ws) (l₂ := [v]))
  have hlt2 : ∀ x, x ∈ pp ++ v :: ws → x < n := fun x hx => hlt x (by
    rcases List.mem_append.1 hx with hx | hx
    · simp [hx]
    · rcases List.mem_cons.1 hx with rfl | hx
      · simp
      · simp [hx])
  have hppl : pp.length + 1 ≤ n := by
    have h0 := nodup_len n _ hG2.nd hlt2
    simp at h0
    omega
  have hsz : w.cell? ⟨CB + 1, size.length, Option.none⟩ = some (.int .i64 (pp.length : Nat)) := by
    rw [hC.size.cell (i := size.length) (by simp), getD_append_last]
  refine wp_block ?_
  rw [codeI9]
  refine wp_seq (sd46 hwl hn hdv h2 fun a3 h3 => wp_seq (sd47 hwl hn h3 fun a4 h4 => ?_))
  refine wp_seq (sd48 (Nat.lt_succ_self _) (by omega) hsz (hC.size.frozen _) h4 fun a5 h5 => ?_)
  have hC2 := hC.cutWork.bumpSize (y := pp.length + 1) (z := ((pp.length + 1 : Nat) : Int)) rfl
  generalize w.setCell ⟨CB + 1, size.length, Option.none⟩ (.int .i64 ((pp.length + 1 : Nat) : Int)) = w2 at hC2 h5 ⊢
  refine wp_seq (sd49 hv (Gr.row (hbG hC2.bel) hv) h5 fun a6 h6 => wp_seq (sd50 h6 fun a7 h7 => ?_))
  refine wp_block (wp_loop_ghost (GI W CB n b5 m5 ra rc out R A C r c0 size pp q v) (R v).length ⟨0, ws, comp, _, rfl, Nat.zero_le _, hG2, hlt2, fun u hu => (by simp at hu), hC2, h7⟩ ?_)
  intro g2 a8 w8 hg
  refine gdRow hgr hH hR hRl hrow hv hg (fun a' w' g' hl hi => ⟨g', hl, hi⟩) (fun a' w' ws comp s21 s22 s23 s24 g1 g2 g3 g4 => ?_)
  refine then_hit (hZ _ _ (n - (pp ++ [v]).length) ?_ ⟨_, ws, comp, _, _, _, _, rfl, g1, g2, g3, g4⟩)
  rw [List.length_append]
  show n - (pp.length + 1) < n - pp.length
  omega

theorem scPass2 {W w : World} {CB n b5 m5 : Nat} {ra : Option Addr} {rc : Nat} {out R : Nat → List Nat} {A : Nat → Option Addr} {C : Nat → Nat} {fin : List Nat} {a : Act} {Q' : Exit → Act → World → Prop} {s18 s19 s20 s21 s22 s23 s24 : Value} (hn : n ≤ 65536) (hgr : Gr W ra n rc A C R) (hH : W.heap.size = CB) (hR : ∀ x, x < n → ∀ u, u ∈ R x ↔ u < n ∧ x ∈ out u) (hRl : ∀ x, x < n → (R x).length ≤ 1099511627776) (hrow : ∀ v w, EO out v w → v < n) (hF : Fins out n fin) (hB : Bl W b5 n fin) (hm5 : m5 = fin.length)
    (hC : C1 W w CB n (fun _ => -1) [] [])
    (h0 : Fr15b a (.int .i64 (n : Nat)) (.slice (some ⟨b5, 0, Option.none⟩) m5 n) (.slice ra n rc) (.slice (some ⟨CB, 0, Option.none⟩) n n) (.slice (some ⟨(CB + 1), 0, Option.none⟩) 0 n) (.slice (some ⟨(CB + 2), 0, Option.none⟩) 0 n) (s18) (s19) (s20) (s21) (s22) (s23) (s24))
    (hZ : ∀ a' w' comp size work s18 s19 s20 s21 s22 s23 s24, CInv out n fin 0 comp size → C1 W w' CB n comp size work → Fr15b a' (.int .i64 (n : Nat)) (.slice (some ⟨b5, 0, Option.none⟩) m5 n) (.slice ra n rc) (.slice (some ⟨CB, 0, Option.none⟩) n n) (.slice (some ⟨(CB + 1), 0, Option.none⟩) size.length n) (.slice (some ⟨(CB + 2), 0, Option.none⟩) work.length n) (s18) (s19) (s20) (s21) (s22) (s23) (s24) → Q' .normal a' w') :
    Code.wp Try.prog (stm Try.f15.body 12) Q' a w := by
  subst hm5
  have hfl : fin.length ≤ n := nodup_len n fin hF.nd (fun x hx => (hF.all x).2 hx)
  have hbF : ∀ {w' : World}, Below CB W w' → Bl w' b5 n fin := fun h => hB.of_block (h.block _ (by rw [← hH]; exact hB.lt))
  rw [codeS12]
  refine wp_seq (sd35 (by omega) h0 fun a1 h1 => ?_)
  refine wp_block (wp_loop_ghost (GO W CB n b5 fin.length ra rc out fin) fin.length ⟨fin.length, _, [], [], _, _, _, _, _, _, rfl, Nat.le_refl _, CInv.first out n fin, by simpa using hfl, hC, h1⟩ ?_)
  clear hC h0 h1
  rintro m a1 w1 ⟨_, comp, size, work, s19, s20, s21, s22, s23, s24, rfl, hm, hI, hsl, hC, h1⟩
  rw [codeL6]
  refine wp_seq (sd36 h1 (fun hm0 a2 h2 => ?_) (fun hm0 a2 h2 => ?_))
  rotate_left
  · obtain rfl : m = 0 := by omega
    exact then_hit2 (hZ _ _ _ _ _ _ _ _ _ _ _ _ hI hC h2)
  obtain ⟨q, rfl⟩ : ∃ q, m = q + 1 := ⟨m - 1, by omega⟩
  rw [show ((q + 1 : Nat) : Int) - 1 = ((q : Nat) : Int) by omega] at h2
  have hr : fin.getD q 0 < n := (hF.all _).2 (mem_getD (by omega))
  have fin37 : ∀ (Q'' : Exit → Act → World → Prop) (a9 : Act) (w9 : World) (comp : Nat → Int) (size work : List Nat) (s19 s20 s21 s22 s23 s24 : Value), (∀ a' w', (∃ n', n' < q + 1 ∧ GO W CB n b5 fin.length ra rc out fin n' a' w') → Q'' .normal a' w') → CInv out n fin q comp size → size.length + q ≤ n → C1 W w9 CB n comp size work → Fr15b a9 (.int .i64 (n : Nat)) (.slice (some ⟨b5, 0, Option.none⟩) fin.length n) (.slice ra n rc) (.slice (some ⟨CB, 0, Option.none⟩) n n) (.slice (some ⟨(CB + 1), 0, Option.none⟩) size.length n) (.slice (some ⟨(CB + 2), 0, Option.none⟩) work.length n) (.int .i64 (q : Nat)) (s19) (s20) (s21) (s22) (s23) (s24) → Code.wp Try.prog (tailC (tailC (innerC (innerC (tailC (stm Try.f15.body 12)))))) Q'' a9 w9 := fun Q'' a9 w9 comp size work s19 s20 s21 s22 s23 s24 hq g1 g2 g3 g4 => sd37 (by omega) g4 fun a10 h10 => hq _ _ ⟨q, Nat.lt_succ_self _, q, comp, size, work, _, _, _, _, _, _, rfl, by omega, g1, g2, g3, h10⟩
  refine wp_seq (wp_block ?_)
  rw [codeI7]
  refine wp_seq (sd38 (by omega) ((hbF hC.bel).cell (by omega)) h2 fun a3 h3 => ?_)
  refine wp_seq (sd39 _ _ hr (hC.comp.cell hr) h3 (fun hc a4 h4 => ?_) (fun hc a4 h4 => ?_))
  · refine wp_exit (then_hit ?_)
    exact fin37 _ _ _ _ _ _ _ _ _ _ _ _ (fun _ _ h => h) (hI.skip hc) (by omega) hC h4
  refine wp_skip ?_
  refine wp_seq (sd40 h4 fun a5 h5 => ?_)
  have hszl : size.length < n := by omega
  refine wp_seq (sd41 (hC.size.run hszl 0) h5 fun a6 h6 => ?_)
  have hC2 := hC.pushSize hszl 0 (z := 0) rfl
  generalize (w1.alloc (.cells #[.int .i64 0] 3)).setCell ⟨CB + 1, size.length, Option.none⟩ (.int .i64 0) = w2 at hC2 h6 ⊢
  refine wp_seq (sd42 hr (by rw [hC2.comp.cell hr]; rfl) (hC2.comp.frozen _) h6 fun a7 h7 => ?_)
  have hC3 := hC2.setComp (fin.getD q 0) ((size.length : Nat) : Int)
  generalize w2.setCell ⟨CB, fin.getD q 0, Option.none⟩ (.int .i64 ((size.length : Nat) : Int)) = w3 at hC3 h7 ⊢
  have hn0 : 0 < n := by omega
  refine wp_seq (sd43 hn0 h7 fun a8 h8 => ?_)
  have hC4 : C1 W w3 CB n (updI comp (fin.getD q 0) ((size.length : Nat) : Int)) (size ++ [0]) [] := C1.cutWork (ws := []) (t := work) hC3
  refine wp_seq (sd44 (hC4.work.run hn0 ((fin.getD q 0 : Nat) : Int)) h8 fun a9 h9 => ?_)
  have hC5 := hC4.pushWork hn0 (fin.getD q 0) rfl
  have hcl : comp (fin.getD q 0) < 0 := by omega
  have hG := GInv.start (out := out) (k := ((size.length : Nat) : Int)) hcl (fun x => by have := hI.rng x; omega)
  refine wp_block (wp_loop_ghost (GM W CB n b5 fin.length ra rc out (fin.getD q 0) comp size q) n ⟨[], [fin.getD q 0], _, _, _, _, _, rfl, hG, fun x hx => by simp at hx; subst hx; exact hr, hC5, h9⟩ ?_)
  intro g2 a10 w10 hg
  refine gdRound hn hgr hH hR hRl hrow hg (fun a' w' g' hl hi => ⟨g', hl, hi⟩) (fun a' w' pp comp' s21 s22 s23 s24 g1 g2 g3 => ?_)
  refine then_hit ?_
  exact fin37 _ _ _ _ _ [] _ _ _ _ _ _ (fun _ _ h => h) (hI.gathered hF (by omega) hcl g1 hrow) (by rw [List.length_append]; simp; omega) g2 (by rw [List.length_append]; exact g3)

end Go.Proofs.Qxb6602460a
