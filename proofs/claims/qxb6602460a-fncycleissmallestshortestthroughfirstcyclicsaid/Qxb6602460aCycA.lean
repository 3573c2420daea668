import Derived.Test.Qxb6602460aQu
namespace Go.Proofs.Qxb6602460a
open Go.RowKit Go.Maps Go.Own

variable {H n s PB : Nat} {na oa : Option Addr} {nc oc : Nat} {w : World} {Q : Exit → Act → World → Prop} {a : Act} {s3 s4 s6 s7 s9 s46 s47 s48 : Value} {A : Option Addr} {N C k x v b off cap m : Nat} {out : Nat → List Nat}

structure Fr38 (a : Act) (s1 s3 s4 s6 s7 s9 s46 s47 s48 : Value) : Prop where
  size : a.tmps.size = 75
  defers : a.defers = []
  e1 : a.tmps.getD 1 undef = s1
  e3 : a.tmps.getD 3 undef = s3
  e4 : a.tmps.getD 4 undef = s4
  e6 : a.tmps.getD 6 undef = s6
  e7 : a.tmps.getD 7 undef = s7
  e9 : a.tmps.getD 9 undef = s9
  e46 : a.tmps.getD 46 undef = s46
  e47 : a.tmps.getD 47 undef = s47
  e48 : a.tmps.getD 48 undef = s48

set_option maxRecDepth 100000 in
theorem range_all38 (f : Nat → Value) : (List.range 75).map f = [f 0, f 1, f 2, f 3, f 4, f 5, f 6, f 7, f 8, f 9, f 10, f 11, f 12, f 13, f 14, f 15, f 16, f 17, f 18, f 19, f 20, f 21, f 22, f 23, f 24, f 25, f 26, f 27, f 28, f 29, f 30, f 31, f 32, f 33, f 34, f 35, f 36, f 37, f 38, f 39, f 40, f 41, f 42, f 43, f 44, f 45, f 46, f 47, f 48, f 49, f 50, f 51, f 52, f 53, f 54, f 55, f 56, f 57, f 58, f 59, f 60, f 61, f 62, f 63, f 64, f 65, f 66, f 67, f 68, f 69, f 70, f 71, f 72, f 73, f 74] := rfl

set_option maxRecDepth 100000 in
set_option maxHeartbeats 4000000 in
theorem fr_open38 {s1 s3 s4 s6 s7 s9 s46 s47 s48 : Value} (P : Act → Prop) (a : Act) (h : Fr38 a s1 s3 s4 s6 s7 s9 s46 s47 s48) (H : ∀ u0 u2 u5 u8 u10 u11 u12 u13 u14 u15 u16 u17 u18 u19 u20 u21 u22 u23 u24 u25 u26 u27 u28 u29 u30 u31 u32 u33 u34 u35 u36 u37 u38 u39 u40 u41 u42 u43 u44 u45 u49 u50 u51 u52 u53 u54 u55 u56 u57 u58 u59 u60 u61 u62 u63 u64 u65 u66 u67 u68 u69 u70 u71 u72 u73 u74 : Value, P ⟨#[u0, s1, u2, s3, s4, u5, s6, s7, u8, s9, u10, u11, u12, u13, u14, u15, u16, u17, u18, u19, u20, u21, u22, u23, u24, u25, u26, u27, u28, u29, u30, u31, u32, u33, u34, u35, u36, u37, u38, u39, u40, u41, u42, u43, u44, u45, s46, s47, s48, u49, u50, u51, u52, u53, u54, u55, u56, u57, u58, u59, u60, u61, u62, u63, u64, u65, u66, u67, u68, u69, u70, u71, u72, u73, u74], []⟩) : P a := by
  obtain ⟨⟨l⟩, d⟩ := a
  have hs : l.length = 75 := h.size
  have hd : d = [] := h.defers
  subst hd
  have e1 : l.getD 1 undef = s1 := by simpa using h.e1
  have e3 : l.getD 3 undef = s3 := by simpa using h.e3
  have e4 : l.getD 4 undef = s4 := by simpa using h.e4
  have e6 : l.getD 6 undef = s6 := by simpa using h.e6
  have e7 : l.getD 7 undef = s7 := by simpa using h.e7
  have e9 : l.getD 9 undef = s9 := by simpa using h.e9
  have e46 : l.getD 46 undef = s46 := by simpa using h.e46
  have e47 : l.getD 47 undef = s47 := by simpa using h.e47
  have e48 : l.getD 48 undef = s48 := by simpa using h.e48
  subst e1 e3 e4 e6 e7 e9 e46 e47 e48
  have e := (list_all l _ hs).trans (range_all38 _)
  have := H (l.getD 0 undef) (l.getD 2 undef) (l.getD 5 undef) (l.getD 8 undef) (l.getD 10 undef) (l.getD 11 undef) (l.getD 12 undef) (l.getD 13 undef) (l.getD 14 undef) (l.getD 15 undef) (l.getD 16 undef) (l.getD 17 undef) (l.getD 18 undef) (l.getD 19 undef) (l.getD 20 undef) (l.getD 21 undef) (l.getD 22 undef) (l.getD 23 undef) (l.getD 24 undef) (l.getD 25 undef) (l.getD 26 undef) (l.getD 27 undef) (l.getD 28 undef) (l.getD 29 undef) (l.getD 30 undef) (l.getD 31 undef) (l.getD 32 undef) (l.getD 33 undef) (l.getD 34 undef) (l.getD 35 undef) (l.getD 36 undef) (l.getD 37 undef) (l.getD 38 undef) (l.getD 39 undef) (l.getD 40 undef) (l.getD 41 undef) (l.getD 42 undef) (l.getD 43 undef) (l.getD 44 undef) (l.getD 45 undef) (l.getD 49 undef) (l.getD 50 undef) (l.getD 51 undef) (l.getD 52 undef) (l.getD 53 undef) (l.getD 54 undef) (l.getD 55 undef) (l.getD 56 undef) (l.getD 57 undef) (l.getD 58 undef) (l.getD 59 undef) (l.getD 60 undef) (l.getD 61 undef) (l.getD 62 undef) (l.getD 63 undef) (l.getD 64 undef) (l.getD 65 undef) (l.getD 66 undef) (l.getD 67 undef) (l.getD 68 undef) (l.getD 69 undef) (l.getD 70 undef) (l.getD 71 undef) (l.getD 72 undef) (l.getD 73 undef) (l.getD 74 undef)
  exact (congrArg (fun x => P ⟨⟨x⟩, []⟩) e).mpr this

set_option maxHeartbeats 8000000 in
set_option maxRecDepth 100000 in
theorem cyA (Z : Code) {AA : Nat → Option Addr} {CC : Nat → Nat} (hgr : Gr w oa n oc AA CC out) (hn : n ≤ 65536) (hin : ∀ i, i < n → ∀ y, y ∈ out i → y < n) (hlen : ∀ i, i < n → (out i).length ≤ 1048576)
    (ha : a = ⟨#[.agg #[.slice na n nc, .slice oa n oc], undef, undef, undef, undef, undef, undef, undef, undef, undef, undef, undef, undef, undef, undef, undef, undef, undef, undef, undef, undef, undef, undef, undef, undef, undef, undef, undef, undef, undef, undef, undef, undef, undef, undef, undef, undef, undef, undef, undef, undef, undef, undef, undef, undef, undef, undef, undef, undef, undef, undef, undef, undef, undef, undef, undef, undef, undef, undef, undef, undef, undef, undef, undef, undef, undef, undef, undef, undef, undef, undef, undef, undef, undef, undef], []⟩)
    (hR : ∀ a' w', a'.defers = [] → a'.tmps.getD 2 undef = .slice Option.none 0 0 → Below w.heap.size w w' → (∀ x, x < n → ¬ OnCyc (Ed out) x) → Q .ret a' w')
    (hZ : ∀ a' w' s, s < n → OnCyc (Ed out) s → (∀ x, x < s → ¬ OnCyc (Ed out) x) → Below w.heap.size w w' → w'.rowIs w.heap.size 51 2 (fun i => if i = 0 then .slice na n nc else .slice oa n oc) → Fr38 a' (.pointer (some ⟨w.heap.size, 0, Option.none⟩)) (.int .i64 (s : Nat)) (undef) (undef) (undef) (undef) (undef) (undef) (undef) → Code.wp Try.prog Z Q a' w') :
    Code.wp Try.prog (.seq (stm Try.f38.body 0) (.seq (stm Try.f38.body 1) (.seq (stm Try.f38.body 2) Z))) Q a w := by
  subst ha
  have HZ := hide hZ
  have HR := hide hR
  have hb0 : Below w.heap.size w (w.alloc (.cells #[.slice na n nc, .slice oa n oc] 51)) := (Below.refl _ _).alloc (Nat.le_refl _) _
  have hrow0 : (w.alloc (.cells #[.slice na n nc, .slice oa n oc] 51)).rowIs w.heap.size 51 2 (fun i => if i = 0 then .slice na n nc else .slice oa n oc) := World.rowIs_alloc w #[.slice na n nc, .slice oa n oc] 51 _ (fun i hi => by
      have : i = 0 ∨ i = 1 := by simp at hi; omega
      rcases this with rfl | rfl <;> rfl)
  have hcall := onCycle37 (na := na) (nc := nc) (RowsAt.below hgr hb0) hn hin hlen
  have hsz : (w.alloc (.cells #[.slice na n nc, .slice oa n oc] 51)).heap.size = w.heap.size + 1 := by simp
  clear hZ hR hgr hin hlen
  conv => arg 2; arg 1; whnf
  conv => arg 2; arg 2; arg 1; whnf
  conv => arg 2; arg 2; arg 2; arg 1; whnf
  go_wp2_with fail
  refine hcall.mono ?_
  rintro e w2 ⟨cyc, rfl, hb2, hrow, hcyc⟩
  have hcall2 := idx42 _ n cyc w2 (by omega) hrow
  rw [hsz] at hb2 hcall2 ⊢
  have hB := hide (hb0.trans (hb2.mono (Nat.le_succ _)))
  have hG := hide (hrow0.of_block (hb2.block _ (Nat.lt_succ_self _)))
  have HC := hide hcyc
  clear hcyc hrow hb2 hrow0 hcall hb0 hsz
  go_wp2_with fail
  refine hcall2.mono ?_
  rintro e w3 ⟨rfl, ⟨s, hs, h1, h2, rfl⟩ | ⟨h2, rfl⟩⟩
  · have t0 : ¬ ((s : Nat) : Int) < 0 := by omega
    have HS := hide (And.intro h1 h2)
    clear h1 h2 hcall2
    go_wp2_with fail
    exact unhide HZ _ _ s hs ((unhide HC s hs).1 (unhide HS).1) (fun x hx hc => by have := (unhide HC x (by omega)).2 hc; rw [(unhide HS).2 x hx] at this; cases this) (unhide hB) (unhide hG) ⟨rfl, rfl, rfl, rfl, rfl, rfl, rfl, rfl, rfl, rfl, rfl⟩
  · have HS := hide h2
    clear h2 hcall2
    go_wp2_with fail
    exact unhide HR _ _ rfl rfl (unhide hB) (fun x hx hc => by have := (unhide HC x hx).2 hc; rw [unhide HS x hx] at this; cases this)

set_option maxHeartbeats 8000000 in
set_option maxRecDepth 100000 in
theorem cyB (Z : Code) (hn : n ≤ 65536) (hs : s < n) (hg : w.rowIs H 51 2 (fun i => if i = 0 then .slice na n nc else .slice oa n oc)) 
    (hF : Fr38 a (.pointer (some ⟨H, 0, Option.none⟩)) (.int .i64 (s : Nat)) (s4) (s6) (s7) (s9) (s46) (s47) (s48))
    (hZ : ∀ a' w', Below w.heap.size w w' → w'.rowIs w.heap.size 3 n (fun i => .int .i64 (updI (fun _ => -1) s (s : Int) i)) → Fr38 a' (.pointer (some ⟨H, 0, Option.none⟩)) (.int .i64 (s : Nat)) (.slice (some ⟨w.heap.size, 0, Option.none⟩) n n) (s6) (s7) (s9) (s46) (s47) (s48) → Code.wp Try.prog Z Q a' w') :
    Code.wp Try.prog (.seq (stm Try.f38.body 3) (.seq (stm Try.f38.body 4) (.seq (stm Try.f38.body 5) Z))) Q a w := by
  have HZ := hide hZ
  have hmk := run_make_row' (P := Try.prog) 22 3 (.int .i64 0) 8 Try.underlying22 Try.info3 rfl .i64 .i64 n (by omega) (by omega)
  have c0 := hg.cell (i := 0) (by omega)
  rw [if_pos rfl] at c0
  have lsn : (s : Int) < (n : Int) := by omega
  clear hZ hg
  refine fr_open38 (fun a => Code.wp Try.prog (.seq (stm Try.f38.body 3) (.seq (stm Try.f38.body 4) (.seq (stm Try.f38.body 5) Z))) Q a w) a hF ?_
  intro u0 u2 u5 u8 u10 u11 u12 u13 u14 u15 u16 u17 u18 u19 u20 u21 u22 u23 u24 u25 u26 u27 u28 u29 u30 u31 u32 u33 u34 u35 u36 u37 u38 u39 u40 u41 u42 u43 u44 u45 u49 u50 u51 u52 u53 u54 u55 u56 u57 u58 u59 u60 u61 u62 u63 u64 u65 u66 u67 u68 u69 u70 u71 u72 u73 u74
  dsimp only
  conv => arg 2; arg 1; whnf
  conv => arg 2; arg 2; arg 1; whnf
  conv => arg 2; arg 2; arg 2; arg 1; whnf
  go_wp2_with fail
  go_loopw [21] (fun i wr => ∃ k : Nat, k ≤ n ∧ i = .int .i64 k ∧ Below w.heap.size w wr ∧ wr.rowIs w.heap.size 3 n (fun i => if i < k then .int .i64 (-1) else .int .i64 0)) (fun i _ => n - (intOf i).toNat)
  case atStart =>
    refine ⟨0, Nat.zero_le _, rfl, (Below.refl _ _).alloc (Nat.le_refl _) _, ?_⟩
    simpa using World.rowIs_made w (.int .i64 0) n 3
  case round =>
    obtain ⟨k, hk, rfl, hb, hrow⟩ := hrel
    by_cases hlt : k < n
    · have hd := hrow.cell hlt
      have hf := hrow.frozen k
      have lk : (k : Int) < (n : Int) := by omega
      have HB := hide hb
      have HR := hide hrow
      clear hb hrow
      go_wp2_with fail
      go_roundw
      case rel => exact ⟨k + 1, by omega, by go_num, (unhide HB).setCell (Nat.le_refl _) _, ((unhide HR).set k _).congr fun i hi => fill_step i k (fun _ => .int .i64 (-1)) _⟩
      case measure => simp [intOf]; omega
    · obtain rfl : k = n := by omega
      have hrow2 : wr.rowIs w.heap.size 3 k (fun _ => .int .i64 (-1)) := hrow.congr fun i hi => if_pos hi
      have hd := hrow2.cell hs
      have hf := hrow2.frozen s
      have HB := hide hb
      have HR := hide hrow2
      clear hb hrow hrow2
      go_wp2_with fail
      exact unhide HZ _ _ ((unhide HB).setCell (Nat.le_refl _) _) (((unhide HR).set s _).congr fun i hi => by unfold updI; split <;> rfl) ⟨rfl, rfl, rfl, rfl, rfl, rfl, rfl, rfl, rfl, rfl, rfl⟩

end Go.Proofs.Qxb6602460a
