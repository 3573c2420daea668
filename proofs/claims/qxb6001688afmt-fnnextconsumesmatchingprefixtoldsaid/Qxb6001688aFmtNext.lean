import Derived.Test.Qxb6001688aFmtErrf
import Derived.Deep.RegionWith
namespace Go.Proofs.Qxb6001688aFmt
open Go.RowKit Go.Own Go.Extern.Stop Go.Stop Go.Extern

def fldVal (f : Fld) : Value := .agg #[.int .i64 f.cls, .int .i64 f.tag, .bool f.comp, .slice f.ba f.bn f.bc]
def fldZero : Fld := ⟨0, 0, false, Option.none, 0, 0⟩

theorem next44_refuses (I : Interp) (fb : Nat) (a : Option Addr) (n c : Nat) (F : Nat → Fld) (nm : ByteArray) (tag : Int) (comp : Bool) (w : World) (hI : I.answers w.tape) (h0 : w.cell? ⟨fb, 0, Option.none⟩ = some (.slice a n c)) (hr : RawsAt w a n F) (hf : n = 0 ∨ fits (F 0) tag comp = false) :
    Calls Tryf.prog 44 #[.pointer (some ⟨fb, 0, Option.none⟩), .string nm, .int .i64 tag, .bool comp] w (NextNo w) := by
  by_cases hn : n = 0
  · subst hn
    exact next44_empty I fb a c nm tag comp w hI h0
  · exact next44_no I fb a n c F nm tag comp w hI h0 (by omega) hr (hf.resolve_left hn)

/-- What ZZNext's last statement reads and writes. -/
structure Ready (W : World) (B fb vb : Nat) (sl : Value) (f : Fld) : Prop where
  cf : W.cell? ⟨fb, 0, Option.none⟩ = some sl
  z0 : W.cell? ⟨vb, 0, Option.none⟩ = some (.int .i64 f.cls)
  z1 : W.cell? ⟨vb, 1, Option.none⟩ = some (.int .i64 f.tag)
  z2 : W.cell? ⟨vb, 2, Option.none⟩ = some (.bool f.comp)
  z3 : W.cell? ⟨vb, 3, Option.none⟩ = some (.slice f.ba f.bn f.bc)
  z4 : W.cell? ⟨vb, 4, Option.none⟩ = some (.slice Option.none 0 0)
  k0 : W.cell? ⟨B, 0, Option.none⟩ = some (.int .i64 0)
  k1 : W.cell? ⟨B, 1, Option.none⟩ = some (.int .i64 0)
  k2 : W.cell? ⟨B, 2, Option.none⟩ = some (.bool false)
  k3 : W.cell? ⟨B, 3, Option.none⟩ = some (.slice Option.none 0 0)
  fr : ∀ o, W.frozen? ⟨B, o, Option.none⟩ = false

theorem Ready.below {W W' : World} {B fb vb : Nat} {sl : Value} {f : Fld} (h : Ready W B fb vb sl f) (hb : Below W.heap.size W W') : Ready W' B fb vb sl f :=
  ⟨cell_below hb h.cf, cell_below hb h.z0, cell_below hb h.z1, cell_below hb h.z2, cell_below hb h.z3, cell_below hb h.z4, cell_below hb h.k0, cell_below hb h.k1, cell_below hb h.k2, cell_below hb h.k3,
    fun o => by rw [hb.frozen (p := ⟨B, o, Option.none⟩) (cell_lt h.k0)]; exact h.fr o⟩

theorem set4_below {w wr : World} (h : Below w.heap.size w wr) (v0 v1 v2 v3 : Value) :
    Below w.heap.size w ((((wr.setCell ⟨w.heap.size, 0, Option.none⟩ v0).setCell ⟨w.heap.size, 1, Option.none⟩ v1).setCell ⟨w.heap.size, 2, Option.none⟩ v2).setCell ⟨w.heap.size, 3, Option.none⟩ v3) :=
  (((h.setCell (p := ⟨_, _, Option.none⟩) (Nat.le_refl _) v0).setCell (p := ⟨_, _, Option.none⟩) (Nat.le_refl _) v1).setCell (p := ⟨_, _, Option.none⟩) (Nat.le_refl _) v2).setCell (p := ⟨_, _, Option.none⟩) (Nat.le_refl _) v3

theorem set4_flds {w : World} {B : Nat} {a : Option Addr} {n : Nat} {F : Nat → Fld} (h : FldsAt w a n F) (hp : ∀ b off, a = some ⟨b, off, Option.none⟩ → b ≠ B) (v0 v1 v2 v3 : Value) :
    FldsAt ((((w.setCell ⟨B, 0, Option.none⟩ v0).setCell ⟨B, 1, Option.none⟩ v1).setCell ⟨B, 2, Option.none⟩ v2).setCell ⟨B, 3, Option.none⟩ v3) a n F :=
  (((h.setOther (p := ⟨B, _, Option.none⟩) hp v0).setOther (p := ⟨B, _, Option.none⟩) hp v1).setOther (p := ⟨B, _, Option.none⟩) hp v2).setOther (p := ⟨B, _, Option.none⟩) hp v3

/-- ZZNext refuses: the same fields, a zero field, an error. -/
def ZNo (n : Nat) (F : Nat → Fld) (w : World) (e : Ending) (w' : World) : Prop :=
  ∃ a' u v, e = .returned (.tuple #[.slice a' n n, fldVal fldZero, .iface u v]) ∧ Below w.heap.size w w' ∧ FldsAt w' a' n F ∧ ∀ b off, a' = some ⟨b, off, Option.none⟩ → w.heap.size ≤ b

set_option maxHeartbeats 1000000 in
set_option maxRecDepth 100000 in
theorem zzNext28_no (I : Interp) (a : Option Addr) (n c : Nat) (F : Nat → Fld) (nm : ByteArray) (tag : Int) (comp : Bool) (w : World) (hI : I.answers w.tape) (hn : n ≤ 1024) (h : FldsAt w a n F) (hf : n = 0 ∨ fits (F 0) tag comp = false) :
    Calls Tryf.prog 28 #[.slice a n c, .string nm, .int .i64 tag, .bool comp] w (ZNo n F w) := by
  have hbz : Below w.heap.size w (w.alloc (.cells #[.int .i64 0, .int .i64 0, .bool false, .slice Option.none 0 0] 57)) := (Below.refl _ _).alloc (Nat.le_refl _) _
  go_enter Tryf.func28, Tryf.ntmps28
  go_wp2_with fail
  refine (toFields43 _ _ _ F _ hn (h.below hbz)).mono ?_
  rintro e w1 ⟨rfl, hb1, hr1⟩
  have hz1 := hb1.size
  simp at hz1
  have htape := hb1.tape
  replace hr1 : RawsAt w1 (some ⟨w.heap.size + 1, 0, Option.none⟩) n F := by simpa using hr1
  go_wp2_with fail
  refine (next44_refuses I w1.heap.size (some ⟨w.heap.size + 1, 0, Option.none⟩) n n F nm tag comp _ (by show I.answers w1.tape; rw [htape]; exact hI) (cell_new w1 _ _ _ rfl) (hr1.below ((Below.refl _ _).alloc (Nat.le_refl _) _)) hf).mono ?_
  rintro e w2 ⟨u, v, rfl, hb2⟩
  have hz2 := hb2.size
  simp at hz2
  clear htape
  have hb12 : Below (w.heap.size + 1) (w.alloc (.cells #[.int .i64 0, .int .i64 0, .bool false, .slice Option.none 0 0] 57)) w2 := ((hb1.mono (by simp)).alloc (by omega) _).trans (hb2.mono (by simp; omega))
  have hb3 : Below (w.heap.size + 1) (w.alloc (.cells #[.int .i64 0, .int .i64 0, .bool false, .slice Option.none 0 0] 57)) (w2.alloc (.cells #[.int .i64 0, .int .i64 0, .bool false, .slice Option.none 0 0, .slice Option.none 0 0] 81)) := hb12.alloc (by omega) _
  have hbw : Below w.heap.size w (w2.alloc (.cells #[.int .i64 0, .int .i64 0, .bool false, .slice Option.none 0 0, .slice Option.none 0 0] 81)) := hbz.trans (hb3.mono (Nat.le_succ _))
  have hr3 := (((hr1.below ((Below.refl _ _).alloc (Nat.le_refl _) (.cells #[.slice (some ⟨w.heap.size + 1, 0, Option.none⟩) n n] 78))).below hb2).below ((Below.refl _ _).alloc (Nat.le_refl _) (.cells #[.int .i64 0, .int .i64 0, .bool false, .slice Option.none 0 0, .slice Option.none 0 0] 81)))
  have hrd : Ready (w2.alloc (.cells #[.int .i64 0, .int .i64 0, .bool false, .slice Option.none 0 0, .slice Option.none 0 0] 81)) w.heap.size w1.heap.size w2.heap.size (.slice (some ⟨w.heap.size + 1, 0, Option.none⟩) n n) fldZero := by
    have hk : ∀ o, (w2.alloc (.cells #[.int .i64 0, .int .i64 0, .bool false, .slice Option.none 0 0, .slice Option.none 0 0] 81)).cell? ⟨w.heap.size, o, Option.none⟩ = (w.alloc (.cells #[.int .i64 0, .int .i64 0, .bool false, .slice Option.none 0 0] 57)).cell? ⟨w.heap.size, o, Option.none⟩ := fun o => hb3.cell (p := ⟨w.heap.size, o, Option.none⟩) (Nat.lt_succ_self _)
    refine ⟨cell_below ((Below.refl _ _).alloc (Nat.le_refl _) _) (cell_below hb2 (cell_new w1 _ _ _ rfl)), cell_new w2 _ _ 0 rfl, cell_new w2 _ _ 1 rfl, cell_new w2 _ _ 2 rfl, cell_new w2 _ _ 3 rfl, cell_new w2 _ _ 4 rfl, ?_, ?_, ?_, ?_, fun o => ?_⟩
    · rw [hk]; exact cell_new w _ _ 0 rfl
    · rw [hk]; exact cell_new w _ _ 1 rfl
    · rw [hk]; exact cell_new w _ _ 2 rfl
    · rw [hk]; exact cell_new w _ _ 3 rfl
    · rw [hb3.frozen (p := ⟨w.heap.size, o, Option.none⟩) (Nat.lt_succ_self _)]; simp
  go_wp2_with fail
  generalize w2.alloc (.cells #[.int .i64 0, .int .i64 0, .bool false, .slice Option.none 0 0, .slice Option.none 0 0] 81) = W at hbw hr3 hrd ⊢
  have e0 := hrd.cf
  have e1 := hrd.z0
  have e2 := hrd.z1
  have e3 := hrd.z2
  have e4 := hrd.z3
  have e5 := hrd.z4
  simp only [fldZero] at e1 e2 e3 e4
  clear hb1 hb2 hb12 hb3 hbz h hf hI
  replace hr3 : RawsAt W.drew (some ⟨w.heap.size + 1, 0, Option.none⟩) n F := hr3
  replace hrd : Ready W.drew w.heap.size w1.heap.size w2.heap.size (.slice (some ⟨w.heap.size + 1, 0, Option.none⟩) n n) fldZero := ⟨hrd.cf, hrd.z0, hrd.z1, hrd.z2, hrd.z3, hrd.z4, hrd.k0, hrd.k1, hrd.k2, hrd.k3, hrd.fr⟩
  replace hbw := hbw.drew
  go_region_with (first
    | (go_at_call 45; refine (fromFields45 _ _ _ F _ hn hr3).mono ?_; rintro e w4 ⟨a', rfl, hb4, hf4, hlo⟩; have hrd4 := hrd.below hb4; have q1 := hrd4.z0; have q2 := hrd4.z1; have q3 := hrd4.z2; have q4 := hrd4.z3; have q5 := hrd4.z4; simp only [fldZero] at q1 q2 q3 q4)
    | (go_at_call 46; refine (fromRaw46 fldZero _).mono ?_; rintro e w5 ⟨rfl, hb5⟩; have hrd5 := hrd4.below hb5; have s0 := hrd5.k0; have s1 := hrd5.k1; have s2 := hrd5.k2; have s3 := hrd5.k3; have s4 := hrd5.fr))
  all_goals
    go_wp2
    refine bodyPost_ret (v := .tuple #[.slice a' n n, fldVal fldZero, .iface u v]) (by simp [results, Tryf.results28, go_sem, fldVal, fldZero, s0, s1, s2, s3]) rfl ⟨a', u, v, rfl, ?_, ?_, fun b off e => Nat.le_trans hbw.size (hlo b off e)⟩
    · have hbb : Below w.heap.size w w5 := hbw.trans ((hb4.mono hbw.size).trans (hb5.mono (Nat.le_trans hbw.size hb4.size)))
      exact set4_below hbb _ _ _ _
    · refine set4_flds (hf4.below hb5) (fun b off e => ?_) _ _ _ _
      have h1 := hlo b off e
      have h2 := cell_lt hrd.k0
      omega

/-- ZZNext takes the first field. -/
def ZYes (n : Nat) (F : Nat → Fld) (w : World) (e : Ending) (w' : World) : Prop :=
  ∃ a', e = .returned (.tuple #[.slice a' (n - 1) (n - 1), fldVal (F 0), .nilIface]) ∧ Below w.heap.size w w' ∧ FldsAt w' a' (n - 1) (fun i => F (i + 1)) ∧ ∀ b off, a' = some ⟨b, off, Option.none⟩ → w.heap.size ≤ b

set_option maxHeartbeats 1000000 in
set_option maxRecDepth 100000 in
theorem zzNext28_yes (a : Option Addr) (n c : Nat) (F : Nat → Fld) (nm : ByteArray) (tag : Int) (comp : Bool) (w : World) (hn : n ≤ 1024) (h : FldsAt w a n F) (hn0 : 0 < n) (hf : fits (F 0) tag comp = true) :
    Calls Tryf.prog 28 #[.slice a n c, .string nm, .int .i64 tag, .bool comp] w (ZYes n F w) := by
  have hbz : Below w.heap.size w (w.alloc (.cells #[.int .i64 0, .int .i64 0, .bool false, .slice Option.none 0 0] 57)) := (Below.refl _ _).alloc (Nat.le_refl _) _
  go_enter Tryf.func28, Tryf.ntmps28
  go_wp2_with fail
  refine (toFields43 _ _ _ F _ hn (h.below hbz)).mono ?_
  rintro e w1 ⟨rfl, hb1, hr1⟩
  have hz1 := hb1.size
  simp at hz1
  replace hr1 : RawsAt w1 (some ⟨w.heap.size + 1, 0, Option.none⟩) n F := by simpa using hr1
  have hlt1 : w.heap.size + 1 < w1.heap.size := by
    obtain ⟨b, off, ha, hc⟩ := hr1 hn0
    cases ha
    exact cell_lt (hc 0 hn0).1
  go_wp2_with fail
  refine (next44_yes w1.heap.size (some ⟨w.heap.size + 1, 0, Option.none⟩) n n F nm tag comp _ (cell_new w1 _ _ _ rfl) (by simp) hn0 (Nat.le_refl _) (hr1.below ((Below.refl _ _).alloc (Nat.le_refl _) _)) (fun b off e => by cases e; omega) hf).mono ?_
  rintro e w2 ⟨rfl, a2, hc2, hr2, hg2⟩
  have hz2 := hg2.size
  simp at hz2
  have hb12 : Below (w.heap.size + 1) (w.alloc (.cells #[.int .i64 0, .int .i64 0, .bool false, .slice Option.none 0 0] 57)) w2 := ((hb1.mono (by simp)).alloc (by omega) _).grown hg2 (by simp; omega) (fun j hj => by cases hj; omega)
  generalize hff : F 0 = f0 at *
  have hb3 : Below (w.heap.size + 1) (w.alloc (.cells #[.int .i64 0, .int .i64 0, .bool false, .slice Option.none 0 0] 57)) (w2.alloc (.cells #[.int .i64 f0.cls, .int .i64 f0.tag, .bool f0.comp, .slice f0.ba f0.bn f0.bc, .slice Option.none 0 0] 81)) := hb12.alloc (by omega) _
  have hbw : Below w.heap.size w (w2.alloc (.cells #[.int .i64 f0.cls, .int .i64 f0.tag, .bool f0.comp, .slice f0.ba f0.bn f0.bc, .slice Option.none 0 0] 81)) := hbz.trans (hb3.mono (Nat.le_succ _))
  have hr3 := hr2.below ((Below.refl _ _).alloc (Nat.le_refl _) (.cells #[.int .i64 f0.cls, .int .i64 f0.tag, .bool f0.comp, .slice f0.ba f0.bn f0.bc, .slice Option.none 0 0] 81))
  have hrd : Ready (w2.alloc (.cells #[.int .i64 f0.cls, .int .i64 f0.tag, .bool f0.comp, .slice f0.ba f0.bn f0.bc, .slice Option.none 0 0] 81)) w.heap.size w1.heap.size w2.heap.size (.slice a2 (n - 1) (n - 1)) f0 := by
    have hk : ∀ o, (w2.alloc (.cells #[.int .i64 f0.cls, .int .i64 f0.tag, .bool f0.comp, .slice f0.ba f0.bn f0.bc, .slice Option.none 0 0] 81)).cell? ⟨w.heap.size, o, Option.none⟩ = (w.alloc (.cells #[.int .i64 0, .int .i64 0, .bool false, .slice Option.none 0 0] 57)).cell? ⟨w.heap.size, o, Option.none⟩ := fun o => hb3.cell (p := ⟨w.heap.size, o, Option.none⟩) (Nat.lt_succ_self _)
    refine ⟨cell_below ((Below.refl _ _).alloc (Nat.le_refl _) _) hc2, cell_new w2 _ _ 0 rfl, cell_new w2 _ _ 1 rfl, cell_new w2 _ _ 2 rfl, cell_new w2 _ _ 3 rfl, cell_new w2 _ _ 4 rfl, ?_, ?_, ?_, ?_, fun o => ?_⟩
    · rw [hk]; exact cell_new w _ _ 0 rfl
    · rw [hk]; exact cell_new w _ _ 1 rfl
    · rw [hk]; exact cell_new w _ _ 2 rfl
    · rw [hk]; exact cell_new w _ _ 3 rfl
    · rw [hb3.frozen (p := ⟨w.heap.size, o, Option.none⟩) (Nat.lt_succ_self _)]; simp
  have HFF := hide hff
  clear hff
  go_wp2_with fail
  generalize w2.alloc (.cells #[.int .i64 f0.cls, .int .i64 f0.tag, .bool f0.comp, .slice f0.ba f0.bn f0.bc, .slice Option.none 0 0] 81) = W at hbw hr3 hrd ⊢
  have e0 := hrd.cf
  have e1 := hrd.z0
  have e2 := hrd.z1
  have e3 := hrd.z2
  have e4 := hrd.z3
  have e5 := hrd.z4
  clear hb1 hb12 hb3 hbz h hf hg2 hc2 hr2
  replace hr3 : RawsAt W.drew a2 (n - 1) (fun i => F (i + 1)) := hr3
  replace hrd : Ready W.drew w.heap.size w1.heap.size w2.heap.size (.slice a2 (n - 1) (n - 1)) f0 := ⟨hrd.cf, hrd.z0, hrd.z1, hrd.z2, hrd.z3, hrd.z4, hrd.k0, hrd.k1, hrd.k2, hrd.k3, hrd.fr⟩
  replace hbw := hbw.drew
  have hn1 : n - 1 ≤ 1024 := by omega
  go_region_with (first
    | (go_at_call 45; refine (fromFields45 _ _ _ (fun i => F (i + 1)) _ hn1 hr3).mono ?_; rintro e w4 ⟨a', rfl, hb4, hf4, hlo⟩; have hrd4 := hrd.below hb4; have q1 := hrd4.z0; have q2 := hrd4.z1; have q3 := hrd4.z2; have q4 := hrd4.z3; have q5 := hrd4.z4)
    | (go_at_call 46; refine (fromRaw46 f0 _).mono ?_; rintro e w5 ⟨rfl, hb5⟩; have hrd5 := hrd4.below hb5; have s0 := hrd5.k0; have s1 := hrd5.k1; have s2 := hrd5.k2; have s3 := hrd5.k3; have s4 := hrd5.fr))
  all_goals
    go_wp2
    refine bodyPost_ret (v := .tuple #[.slice a' (n - 1) (n - 1), fldVal f0, .nilIface]) (by simp [results, Tryf.results28, go_sem, fldVal, s0, s1, s2, s3]) rfl ⟨a', by rw [unhide HFF], ?_, ?_, fun b off e => Nat.le_trans hbw.size (hlo b off e)⟩
    · have hbb : Below w.heap.size w w5 := hbw.trans ((hb4.mono hbw.size).trans (hb5.mono (Nat.le_trans hbw.size hb4.size)))
      exact set4_below hbb _ _ _ _
    · refine set4_flds (hf4.below hb5) (fun b off e => ?_) _ _ _ _
      have h1 := hlo b off e
      have h2 := cell_lt hrd.k0
      omega
end Go.Proofs.Qxb6001688aFmt
