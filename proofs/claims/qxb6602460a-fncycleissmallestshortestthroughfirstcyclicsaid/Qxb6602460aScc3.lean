import Derived.Test.Qxb6602460aRev
import Derived.Test.Qxb6602460aScc1
import Derived.Test.Qxb6602460aScc2
namespace Go.Proofs.Qxb6602460a
open Go.RowKit Go.Maps Go.Own

variable {n b4 b5 b6 b7 b14 b16 b17 m5 m6 m7 m16 m17 : Nat} {oa ra : Option Addr} {oc rc : Nat} {w w' : World} {Q : Exit → Act → World → Prop} {a : Act} {s8 s9 s10 s11 s12 s16 s17 s18 s19 s20 s21 s22 s23 s24 : Value} {out : Nat → List Nat}

set_option maxHeartbeats 8000000 in
set_option maxRecDepth 100000 in
theorem sc0 (Z : Code) (hn : n ≤ 65536)
    (ha : a = ⟨#[.slice oa n oc, undef, undef, undef, undef, undef, undef, undef, undef, undef, undef, undef, undef, undef, undef, undef, undef, undef, undef, undef, undef, undef, undef, undef, undef, undef, undef, undef, undef, undef, undef, undef, undef, undef, undef, undef, undef, undef, undef, undef, undef, undef, undef, undef, undef, undef, undef, undef, undef, undef, undef, undef, undef, undef, undef, undef, undef, undef, undef, undef, undef, undef, undef, undef, undef, undef, undef, undef, undef, undef, undef, undef, undef, undef, undef, undef, undef, undef, undef, undef, undef, undef, undef, undef, undef, undef, undef, undef, undef, undef, undef, undef, undef, undef, undef, undef, undef, undef, undef, undef, undef, undef, undef, undef, undef, undef, undef, undef, undef, undef, undef, undef, undef, undef, undef, undef, undef, undef, undef, undef, undef, undef, undef, undef, undef, undef, undef, undef, undef, undef, undef, undef, undef, undef, undef, undef, undef, undef, undef, undef, undef, undef, undef, undef, undef, undef, undef, undef, undef, undef, undef, undef, undef, undef, undef, undef, undef, undef, undef, undef, undef, undef, undef, undef, undef, undef, undef, undef, undef, undef, undef, undef, undef, undef, undef, undef, undef, undef, undef, undef, undef, undef, undef, undef, undef, undef, undef, undef, undef, undef, undef, undef, undef, undef, undef, undef, undef, undef, undef, undef, undef, undef, undef, undef, undef, undef, undef, undef, undef, undef, undef, undef, undef, undef, undef, undef, undef, undef, undef, undef, undef, undef, undef, undef, undef, undef, undef, undef], []⟩)
    (hZ : ∀ a', Fr15 a' (.slice oa n oc) (.int .i64 (n : Nat)) (.slice (some ⟨w.heap.size, 0, Option.none⟩) n n) (.slice (some ⟨(w.heap.size + 1), 0, Option.none⟩) 0 n) (.slice (some ⟨(w.heap.size + 2), 0, Option.none⟩) 0 n) (.slice (some ⟨(w.heap.size + 3), 0, Option.none⟩) 0 n) (undef) (undef) (undef) (undef) (undef) → Code.wp Try.prog Z Q a' ((((w.alloc (.cells (madeCells #[.bool false] n) 4)).alloc (.cells (madeCells #[.int .i64 0] n) 3)).alloc (.cells (madeCells #[.int .i64 0] n) 3)).alloc (.cells (madeCells #[.int .i64 0] n) 3))) :
    Code.wp Try.prog (.seq (stm Try.f15.body 0) (.seq (stm Try.f15.body 1) (.seq (stm Try.f15.body 2) (.seq (stm Try.f15.body 3) (.seq (stm Try.f15.body 4) (.seq (stm Try.f15.body 5) Z)))))) Q a w := by
  subst ha
  have HZ := hide hZ
  have hmk := run_make_row' (P := Try.prog) 28 4 (.bool false) 1 Try.underlying28 Try.info4 rfl .i64 .i64 n (by omega) (by omega)
  have hmk0 := make0 n (by omega)
  clear hZ
  conv => arg 2; arg 1; whnf
  conv => arg 2; arg 2; arg 1; whnf
  conv => arg 2; arg 2; arg 2; arg 1; whnf
  conv => arg 2; arg 2; arg 2; arg 2; arg 1; whnf
  conv => arg 2; arg 2; arg 2; arg 2; arg 2; arg 1; whnf
  conv => arg 2; arg 2; arg 2; arg 2; arg 2; arg 2; arg 1; whnf
  go_wp2_with fail
  exact unhide HZ _ ⟨rfl, rfl, rfl, rfl, rfl, rfl, rfl, rfl, rfl, rfl, rfl, rfl, rfl⟩

set_option maxHeartbeats 8000000 in
set_option maxRecDepth 100000 in
theorem scB (Z : Code) (hn : n ≤ 65536) (hcall : Calls Try.prog 17 #[.slice oa n oc] w (RevPost n out w))
    (hF : Fr15 a (.slice oa n oc) (.int .i64 (n : Nat)) (.slice (some ⟨b4, 0, Option.none⟩) n n) (.slice (some ⟨b5, 0, Option.none⟩) m5 n) (.slice (some ⟨b6, 0, Option.none⟩) m6 n) (.slice (some ⟨b7, 0, Option.none⟩) m7 n) (s8) (s9) (s10) (s11) (s12))
    (hZ : ∀ a' w2 w' A C R s16 s17 s18 s19 s20 s21 s22 s23 s24, Below w.heap.size w w2 → Gr w2 (some ⟨w.heap.size, 0, Option.none⟩) n n A C R → (∀ x, x < n → ∀ u, u ∈ R x ↔ u < n ∧ x ∈ out u) → (∀ x, x < n → (R x).length ≤ 1099511627776) → Below w2.heap.size w2 w' → w'.heap.size = w2.heap.size + 1 → w'.rowIs w2.heap.size 3 n (fun _ => .int .i64 (-1)) → Fr15b a' (.int .i64 (n : Nat)) (.slice (some ⟨b5, 0, Option.none⟩) m5 n) (.slice (some ⟨w.heap.size, 0, Option.none⟩) n n) (.slice (some ⟨w2.heap.size, 0, Option.none⟩) n n) (s16) (s17) (s18) (s19) (s20) (s21) (s22) (s23) (s24) → Code.wp Try.prog Z Q a' w') :
    Code.wp Try.prog (.seq (stm Try.f15.body 7) (.seq (stm Try.f15.body 8) (.seq (stm Try.f15.body 9) Z))) Q a w := by
  have HZ := hide hZ
  have hmk := run_make_row' (P := Try.prog) 22 3 (.int .i64 0) 8 Try.underlying22 Try.info3 rfl .i64 .i64 n (by omega) (by omega)
  clear hZ
  refine fr_open15 (fun a => Code.wp Try.prog (.seq (stm Try.f15.body 7) (.seq (stm Try.f15.body 8) (.seq (stm Try.f15.body 9) Z))) Q a w) a hF ?_
  intro u1 u2 u13 u14 u15 u16 u17 u18 u19 u20 u21 u22 u23 u24 u25 u26 u27 u28 u29 u30 u31 u32 u33 u34 u35 u36 u37 u38 u39 u40 u41 u42 u43 u44 u45 u46 u47 u48 u49 u50 u51 u52 u53 u54 u55 u56 u57 u58 u59 u60 u61 u62 u63 u64 u65 u66 u67 u68 u69 u70 u71 u72 u73 u74 u75 u76 u77 u78 u79 u80 u81 u82 u83 u84 u85 u86 u87 u88 u89 u90 u91 u92 u93 u94 u95 u96 u97 u98 u99 u100 u101 u102 u103 u104 u105 u106 u107 u108 u109 u110 u111 u112 u113 u114 u115 u116 u117 u118 u119 u120 u121 u122 u123 u124 u125 u126 u127 u128 u129 u130 u131 u132 u133 u134 u135 u136 u137 u138 u139 u140 u141 u142 u143 u144 u145 u146 u147 u148 u149 u150 u151 u152 u153 u154 u155 u156 u157 u158 u159 u160 u161 u162 u163 u164 u165 u166 u167 u168 u169 u170 u171 u172 u173 u174 u175 u176 u177 u178 u179 u180 u181 u182 u183 u184 u185 u186 u187 u188 u189 u190 u191 u192 u193 u194 u195 u196 u197 u198 u199 u200 u201 u202 u203 u204 u205 u206 u207 u208 u209 u210 u211 u212 u213 u214 u215 u216 u217 u218 u219 u220 u221 u222 u223 u224 u225 u226 u227
  dsimp only
  conv => arg 2; arg 1; whnf
  conv => arg 2; arg 2; arg 1; whnf
  conv => arg 2; arg 2; arg 2; arg 1; whnf
  go_wp2_with fail
  refine hcall.mono ?_
  rintro e w2 ⟨A, C, R, rfl, hb2, hgr, hR, hRl⟩
  have H1 := hide (And.intro hb2 (And.intro hgr (And.intro hR hRl)))
  clear hb2 hgr hR hRl hcall
  go_wp2_with fail
  go_loopw [15] (fun i wr => ∃ k : Nat, k ≤ n ∧ i = .int .i64 k ∧ Below w2.heap.size w2 wr ∧ wr.heap.size = w2.heap.size + 1 ∧ wr.rowIs w2.heap.size 3 n (fun i => if i < k then .int .i64 (-1) else .int .i64 0)) (fun i _ => n - (intOf i).toNat)
  case atStart =>
    refine ⟨0, Nat.zero_le _, rfl, (Below.refl _ _).alloc (Nat.le_refl _) _, by simp, ?_⟩
    simpa using World.rowIs_made w2 (.int .i64 0) n 3
  case round =>
    obtain ⟨k, hk, rfl, hb, hsz, hrow⟩ := hrel
    by_cases hlt : k < n
    · have hd := hrow.cell hlt
      have hf := hrow.frozen k
      have lk : (k : Int) < (n : Int) := by omega
      have HB := hide (And.intro hb hsz)
      have HR := hide hrow
      clear hb hrow hsz
      go_wp2_with fail
      go_roundw
      case rel => exact ⟨k + 1, by omega, by go_num, (unhide HB).1.setCell (Nat.le_refl _) _, by simpa using (unhide HB).2, ((unhide HR).set k _).congr fun i hi => fill_step i k (fun _ => .int .i64 (-1)) _⟩
      case measure => simp [intOf]; omega
    · obtain rfl : k = n := by omega
      have HB := hide (And.intro hb (And.intro hsz (hrow.congr (g := fun _ => .int .i64 (-1)) fun i hi => if_pos hi)))
      clear hb hrow hsz
      go_wp2_with fail
      obtain ⟨g1, g2, g3, g4⟩ := unhide H1
      obtain ⟨g5, g6, g7⟩ := unhide HB
      exact unhide HZ _ _ _ _ _ _ _ _ _ _ _ _ _ _ _ g1 g2 g3 g4 g5 g6 g7 ⟨rfl, rfl, rfl, rfl, rfl, rfl, rfl, rfl, rfl, rfl, rfl, rfl, rfl, rfl, rfl⟩

set_option maxHeartbeats 8000000 in
set_option maxRecDepth 100000 in
theorem scEnd {comp : Nat → Int} {size : List Nat} {CB : Nat} (hn : n ≤ 65536) (hCB : CB < w.heap.size) (hrow0 : w.rowIs CB 3 n (fun i => .int .i64 (comp i))) (hS : Bl w (CB + 1) n size) (hc : ∀ x, x < n → 0 ≤ comp x ∧ comp x < size.length)
    (hF : Fr15b a (.int .i64 (n : Nat)) (.slice (some ⟨b5, 0, Option.none⟩) m5 n) (.slice ra n rc) (.slice (some ⟨CB, 0, Option.none⟩) n n) (.slice (some ⟨(CB + 1), 0, Option.none⟩) size.length n) (.slice (some ⟨b17, 0, Option.none⟩) m17 n) (s18) (s19) (s20) (s21) (s22) (s23) (s24))
    (hZ : ∀ a' w', a'.defers = [] → a'.tmps.getD 2 undef = .slice (some ⟨w.heap.size, 0, Option.none⟩) n n → Below w.heap.size w w' → w'.rowIs w.heap.size 3 n (fun i => .int .i64 (size.getD (comp i).toNat 0 : Nat)) → Q .ret a' w') :
    Code.wp Try.prog (.seq (stm Try.f15.body 13) (.seq (stm Try.f15.body 14) (rst Try.f15.body 15))) Q a w := by
  have HZ := hide hZ
  have hmk := run_make_row' (P := Try.prog) 22 3 (.int .i64 0) 8 Try.underlying22 Try.info3 rfl .i64 .i64 n (by omega) (by omega)
  have HS := hide hS
  have HR0 := hide hrow0
  have HC := hide hc
  have hSl := hS.lt
  clear hZ hS hrow0 hc
  refine fr_open15b (fun a => Code.wp Try.prog (.seq (stm Try.f15.body 13) (.seq (stm Try.f15.body 14) (rst Try.f15.body 15))) Q a w) a hF ?_
  intro u0 u1 u2 u4 u6 u7 u8 u9 u10 u11 u12 u15 u25 u26 u27 u28 u29 u30 u31 u32 u33 u34 u35 u36 u37 u38 u39 u40 u41 u42 u43 u44 u45 u46 u47 u48 u49 u50 u51 u52 u53 u54 u55 u56 u57 u58 u59 u60 u61 u62 u63 u64 u65 u66 u67 u68 u69 u70 u71 u72 u73 u74 u75 u76 u77 u78 u79 u80 u81 u82 u83 u84 u85 u86 u87 u88 u89 u90 u91 u92 u93 u94 u95 u96 u97 u98 u99 u100 u101 u102 u103 u104 u105 u106 u107 u108 u109 u110 u111 u112 u113 u114 u115 u116 u117 u118 u119 u120 u121 u122 u123 u124 u125 u126 u127 u128 u129 u130 u131 u132 u133 u134 u135 u136 u137 u138 u139 u140 u141 u142 u143 u144 u145 u146 u147 u148 u149 u150 u151 u152 u153 u154 u155 u156 u157 u158 u159 u160 u161 u162 u163 u164 u165 u166 u167 u168 u169 u170 u171 u172 u173 u174 u175 u176 u177 u178 u179 u180 u181 u182 u183 u184 u185 u186 u187 u188 u189 u190 u191 u192 u193 u194 u195 u196 u197 u198 u199 u200 u201 u202 u203 u204 u205 u206 u207 u208 u209 u210 u211 u212 u213 u214 u215 u216 u217 u218 u219 u220 u221 u222 u223 u224 u225 u226 u227
  dsimp only
  conv => arg 2; arg 1; whnf
  conv => arg 2; arg 2; arg 1; whnf
  conv => arg 2; arg 2; arg 2; whnf
  go_wp2_with fail
  go_loopw [26] (fun i wr => ∃ k : Nat, k ≤ n ∧ i = .int .i64 k ∧ Below w.heap.size w wr ∧ wr.rowIs w.heap.size 3 n (fun i => if i < k then .int .i64 (size.getD (comp i).toNat 0 : Nat) else .int .i64 0)) (fun i _ => n - (intOf i).toNat)
  case atStart =>
    refine ⟨0, Nat.zero_le _, rfl, (Below.refl _ _).alloc (Nat.le_refl _) _, ?_⟩
    simpa using World.rowIs_made w (.int .i64 0) n 3
  case round =>
    obtain ⟨k, hk, rfl, hb, hrow⟩ := hrel
    by_cases hlt : k < n
    · have hd := hrow.cell hlt
      have hf := hrow.frozen k
      have lk : (k : Int) < (n : Int) := by omega
      have d1 := ((unhide HR0).of_block (hb.block _ hCB)).cell hlt
      obtain ⟨c1, c2⟩ := unhide HC k hlt
      obtain ⟨c, hce⟩ : ∃ c : Nat, comp k = (c : Int) := ⟨(comp k).toNat, by omega⟩
      rw [hce] at d1 c2
      have d2 := ((unhide HS).of_block (hb.block _ hSl)).cell (i := c) (by omega)
      have HB := hide hb
      have HR := hide hrow
      have HE := hide hce
      clear hb hrow hce c1
      go_wp2_with fail
      go_roundw
      case rel => exact ⟨k + 1, by omega, by go_num, (unhide HB).setCell (Nat.le_refl _) _, ((unhide HR).set k _).congr fun i hi => by
        have e : size[c]?.getD 0 = size.getD (comp k).toNat 0 := by rw [unhide HE, List.getD_eq_getElem?_getD]; rfl
        rw [e]
        exact fill_step i k (fun i => .int .i64 (size.getD (comp i).toNat 0 : Nat)) _⟩
      case measure => simp [intOf]; omega
    · obtain rfl : k = n := by omega
      have HB := hide (And.intro hb (hrow.congr (g := fun i => .int .i64 (size.getD (comp i).toNat 0 : Nat)) fun i hi => if_pos hi))
      clear hb hrow
      go_wp2_with fail
      exact unhide HZ _ _ rfl rfl (unhide HB).1 (unhide HB).2


/-- What sccSizeModel leaves. -/
def SccPost (n : Nat) (out : Nat → List Nat) (w : World) (e : Ending) (w' : World) : Prop :=
  ∃ (b : Nat) (sz : Nat → Nat), e = .returned (.slice (some ⟨b, 0, Option.none⟩) n n) ∧ w.heap.size ≤ b ∧ Below w.heap.size w w' ∧ w'.rowIs b 3 n (fun i => .int .i64 (sz i : Nat)) ∧ ∀ x, x < n → (1 < sz x ↔ OnCyc (EO out) x)

theorem sc0_k1 (w : World) (n : Nat) : K1 w ((((w.alloc (.cells (madeCells #[.bool false] n) 4)).alloc (.cells (madeCells #[.int .i64 0] n) 3)).alloc (.cells (madeCells #[.int .i64 0] n) 3)).alloc (.cells (madeCells #[.int .i64 0] n) 3)) w.heap.size n ⟨fun _ => false, [], [], []⟩ := by
  have e1 : (w.alloc (.cells (madeCells #[.bool false] n) 4)).heap.size = w.heap.size + 1 := by simp
  have r1 := World.rowIs_made w (.bool false) n 4
  have b1 : Below w.heap.size w (w.alloc (.cells (madeCells #[.bool false] n) 4)) := (Below.refl _ _).alloc (Nat.le_refl _) _
  generalize w.alloc (.cells (madeCells #[.bool false] n) 4) = w1 at *
  have m1 := Bl.made w1 n
  rw [e1] at m1
  have e2 : (w1.alloc (.cells (madeCells #[.int .i64 0] n) 3)).heap.size = w.heap.size + 2 := by simp [e1]
  have b2 := b1.alloc (by omega) (.cells (madeCells #[.int .i64 0] n) 3)
  have r2 := r1.alloc (.cells (madeCells #[.int .i64 0] n) 3)
  generalize w1.alloc (.cells (madeCells #[.int .i64 0] n) 3) = w2 at *
  have m2 := Bl.made w2 n
  rw [e2] at m2
  have e3 : (w2.alloc (.cells (madeCells #[.int .i64 0] n) 3)).heap.size = w.heap.size + 3 := by simp [e2]
  have b3 := b2.alloc (by omega) (.cells (madeCells #[.int .i64 0] n) 3)
  have r3 := r2.alloc (.cells (madeCells #[.int .i64 0] n) 3)
  have m1' := m1.alloc (.cells (madeCells #[.int .i64 0] n) 3)
  generalize w2.alloc (.cells (madeCells #[.int .i64 0] n) 3) = w3 at *
  have m3 := Bl.made w3 n
  rw [e3] at m3
  exact ⟨b3.alloc (by omega) _, r3.alloc _, m1'.alloc _, m2.alloc _, m3⟩

set_option maxRecDepth 100000 in
theorem scc15 {w : World} {n : Nat} {oa : Option Addr} {oc : Nat} {out : Nat → List Nat} {A : Nat → Option Addr} {C : Nat → Nat}
    (hn : n ≤ 65536) (hgr : Gr w oa n oc A C out) (hin : ∀ i, i < n → ∀ y, y ∈ out i → y < n) (hlen : ∀ i, i < n → (out i).length ≤ 1048576) (hrow : ∀ v x, EO out v x → v < n) :
    Calls Try.prog 15 #[.slice oa n oc] w (SccPost n out w) := by
  have hmk0 := make0 n (by omega)
  go_enter Try.func15, Try.ntmps15
  show Code.wp Try.prog (.seq (stm Try.f15.body 0) (.seq (stm Try.f15.body 1) (.seq (stm Try.f15.body 2) (.seq (stm Try.f15.body 3) (.seq (stm Try.f15.body 4) (.seq (stm Try.f15.body 5) (.seq (stm Try.f15.body 6) (.seq (stm Try.f15.body 7) (.seq (stm Try.f15.body 8) (.seq (stm Try.f15.body 9) (.seq (stm Try.f15.body 10) (.seq (stm Try.f15.body 11) (.seq (stm Try.f15.body 12) (.seq (stm Try.f15.body 13) (.seq (stm Try.f15.body 14) (rst Try.f15.body 15)))))))))))))))) _ _ _
  refine sc0 _ hn rfl fun a1 h1 => ?_
  have hK := sc0_k1 w n
  generalize (((w.alloc (.cells (madeCells #[.bool false] n) 4)).alloc (.cells (madeCells #[.int .i64 0] n) 3)).alloc (.cells (madeCells #[.int .i64 0] n) 3)).alloc (.cells (madeCells #[.int .i64 0] n) 3) = w1 at hK h1 ⊢
  refine wp_seq (scPass1 hn hgr rfl hin hlen h1 hK fun a2 w2 vis fin s8 s9 s10 s11 s12 hFin hK2 h2 => ?_)
  have hgr2 : Gr w2 oa n oc A C out := RowsAt.below hgr hK2.bel
  refine scB _ hn (rev17 oa n oc A C out w2 hgr2 hn hin hlen) h2 fun a3 w3 w4 A' C' R s16 s17 s18 s19 s20 s21 s22 s23 s24 hb3 hgr3 hR hRl hb4 hsz4 hrow4 h3 => ?_
  refine wp_seq (sd33 hmk0 h3 fun a4 h4 => ?_)
  rw [hsz4] at h4
  refine wp_seq (sd34 hmk0 h4 fun a5 h5 => ?_)
  have hsz5 : (w4.alloc (.cells (madeCells #[.int .i64 0] n) 3)).heap.size = w3.heap.size + 2 := by simp [hsz4]
  rw [hsz5] at h5
  have hC : C1 w3 ((w4.alloc (.cells (madeCells #[.int .i64 0] n) 3)).alloc (.cells (madeCells #[.int .i64 0] n) 3)) w3.heap.size n (fun _ => -1) [] [] := by
    have m1 := Bl.made w4 n
    rw [hsz4] at m1
    have m2 := Bl.made (w4.alloc (.cells (madeCells #[.int .i64 0] n) 3)) n
    rw [hsz5] at m2
    exact ⟨(hb4.alloc (by omega) _).alloc (by omega) _, (hrow4.alloc _).alloc _, m1.alloc _, m2⟩
  generalize (w4.alloc (.cells (madeCells #[.int .i64 0] n) 3)).alloc (.cells (madeCells #[.int .i64 0] n) 3) = w5 at hC h5 ⊢
  have hle2 := hK2.le
  have hfin3 : Bl w3 (w.heap.size + 1) n fin := hK2.fin.of_block (hb3.block _ hK2.fin.lt)
  refine wp_seq (scPass2 hn hgr3 rfl hR hRl hrow hFin hfin3 rfl hC h5 fun a6 w6 comp size work s18 s19 s20 s21 s22 s23 s24 hI hC6 h6 => ?_)
  have hcc : ∀ x, x < n → 0 ≤ comp x ∧ comp x < size.length := fun x hx => by
    obtain ⟨j, hj, he⟩ := mem_at ((hFin.all x).1 hx)
    have := hI.done j (Nat.zero_le _) hj
    rw [he] at this
    exact ⟨this, hI.rng x⟩
  refine scEnd hn hC6.comp.lt hC6.comp hC6.size hcc h6 fun a7 w7 hd h7 hb7 hrow7 => ?_
  have hb36 : Below w3.heap.size w3 w6 := hC6.bel
  have hb26 : Below w2.heap.size w2 w6 := hb3.trans (hb36.mono hb3.size)
  have hb06 : Below w.heap.size w w6 := hK2.bel.trans (hb26.mono hle2)
  refine bodyPost_ret (results_tmp rfl _ _ _) hd ⟨w6.heap.size, fun i => size.getD (comp i).toNat 0, by rw [h7], hb06.size, hb06.trans (hb7.mono hb06.size), hrow7, fun x hx => hI.ok x (hcc x hx).1⟩

end Go.Proofs.Qxb6602460a
