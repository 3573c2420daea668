import Derived.Test.Qxb6001688aFmtRaw
import Derived.Stop.CallBack
import Derived.Stop.IfaceNil
import GoSem.ClaimData
namespace Go.Proofs.Qxb6001688aFmt
open Go.RowKit Go.Own Go.Extern.Stop Go.Stop Go.Extern

/-- The format's bytes, as they stand in the Go text. -/
def fmtBytes : ByteArray := ⟨#[37, 115, 32, 105, 115, 32, 110, 111, 116, 32, 119, 104, 101, 114, 101, 32, 105, 116, 32, 115, 104, 111, 117, 108, 100, 32, 98, 101]⟩

theorem call52 (args : Array Value) (w : World) : (callFunc 52 args).run Tryf.prog w = ((FmtStop.errorf #[9, 95] #[29] args).run Tryf.prog w).andThen fun v w' => .ok (.value v) w' :=
  run_callFunc_extern Tryf.func52 (by kernel_rfl) (by kernel_rfl) (by kernel_rfl) (by kernel_rfl) args w
theorem guardf (name : String) (w : World) : (FmtStop.guard name).run Tryf.prog w = .ok () w := by kernel_rfl
theorem fmt0 : FmtStop.printed? ⟨#[37, 115, 32, 105, 115, 32, 110, 111, 116, 32, 119, 104, 101, 114, 101, 32, 105, 116, 32, 115, 104, 111, 117, 108, 100, 32, 98, 101]⟩ 1 = some [(0, 115, false)] := by kernel_rfl
theorem fmt0r (w : World) : (FmtDoors.printed ⟨#[37, 115, 32, 105, 115, 32, 110, 111, 116, 32, 119, 104, 101, 114, 101, 32, 105, 116, 32, 115, 104, 111, 117, 108, 100, 32, 98, 101]⟩ 1).run Tryf.prog w = .ok [(0, 115, false)] w := by kernel_rfl
def shape9 : List UInt8 := [12, 6, 0, 0, 0, 0, 0, 0, 0, 115, 116, 114, 105, 110, 103]
theorem op9_115 (name : String) (x : ByteArray) (w : World) : (FmtStop.operand name false 115 false (.iface 9 (.string x))).run Tryf.prog w = .ok (shape9, FmtStop.pack x.data.toList) w := by kernel_rfl
theorem op9_115w (name : String) (x : ByteArray) (w : World) : (FmtStop.operand name true 115 false (.iface 9 (.string x))).run Tryf.prog w = .ok (shape9, FmtStop.pack x.data.toList) w := by kernel_rfl
theorem ptr122 (w : World) : (FmtStop.ptrTo "errors.errorString").run Tryf.prog w = .ok 122 w := by kernel_rfl
theorem elem122 (w : World) : (elemOf 122).run Tryf.prog w = .ok 124 w := by kernel_rfl

/-- What fmt.Errorf leaves: a new error; nothing that was there has turned. -/
def ErrPost (w : World) (e : Ending) (w' : World) : Prop := ∃ u v, e = .returned (.iface u v) ∧ Below w.heap.size w w'

set_option maxHeartbeats 1000000 in
set_option maxRecDepth 100000 in
theorem errorf38 (F : Interp) (nm : ByteArray) (b : Nat) (w : World) (hF : F.answers w.tape) (hc : w.cell? ⟨b, 0, Option.none⟩ = some (.iface 9 (.string nm))) :
    Calls Tryf.prog 38 #[.string ⟨#[37, 115, 32, 105, 115, 32, 110, 111, 116, 32, 119, 104, 101, 114, 101, 32, 105, 116, 32, 115, 104, 111, 117, 108, 100, 32, 98, 101]⟩, .slice (some ⟨b, 0, Option.none⟩) 1 1] w (ErrPost w) := by
  have hF' := answers_open hF
  have h1 := call52
  have h2 := guardf
  have h3 := fmt0
  have h4 := fmt0r
  have h5 := op9_115
  have h6 := op9_115w
  have h7 := ptr122
  have h8 := elem122
  go_enter Tryf.func38, Tryf.ntmps38
  go_wp2
  go_ret
  exact ⟨122, _, rfl, ((Below.refl _ _).alloc (Nat.le_refl _) _).drew⟩

/-- Does a field match? -/
def fits (f : Fld) (tag : Int) (comp : Bool) : Bool := decide (f.cls = 0 ∧ f.tag = tag ∧ f.comp = comp)

/-- next refuses: an error, a zero field; nothing that was there has turned. -/
def NextNo (w : World) (e : Ending) (w' : World) : Prop := ∃ u v, e = .returned (.tuple #[.agg #[.int .i64 0, .int .i64 0, .bool false, .slice Option.none 0 0, .slice Option.none 0 0], .iface u v]) ∧ Below w.heap.size w w'

set_option maxHeartbeats 1000000 in
set_option maxRecDepth 100000 in
theorem next44_empty (I : Interp) (fb : Nat) (a : Option Addr) (c : Nat) (nm : ByteArray) (tag : Int) (comp : Bool) (w : World) (hI : I.answers w.tape) (h0 : w.cell? ⟨fb, 0, Option.none⟩ = some (.slice a 0 c)) :
    Calls Tryf.prog 44 #[.pointer (some ⟨fb, 0, Option.none⟩), .string nm, .int .i64 tag, .bool comp] w (NextNo w) := by
  have hfb := cell_lt h0
  go_enter Tryf.func44, Tryf.ntmps44
  go_wp2_with fail
  refine (errorf38 I nm (w.heap.size + 1) _ (by exact hI) (by simp)).mono ?_
  rintro e w1 ⟨u, v, rfl, hb1⟩
  have hz := hb1.size
  simp at hz
  have k0 := cell_below hb1 (b := w.heap.size) (o := 0) (v := .int .i64 0) (by simp)
  have k1 := cell_below hb1 (b := w.heap.size) (o := 1) (v := .int .i64 0) (by simp)
  have k2 := cell_below hb1 (b := w.heap.size) (o := 2) (v := .bool false) (by simp)
  have k3 := cell_below hb1 (b := w.heap.size) (o := 3) (v := .slice Option.none 0 0) (by simp)
  have k4 := cell_below hb1 (b := w.heap.size) (o := 4) (v := .slice Option.none 0 0) (by simp)
  have f0 : ∀ o, w1.frozen? ⟨w.heap.size, o, Option.none⟩ = false := fun o => by rw [hb1.frozen (p := ⟨w.heap.size, o, Option.none⟩) (by simp; omega)]; simp
  go_wp2
  refine bodyPost_ret (v := .tuple #[.agg #[.int .i64 0, .int .i64 0, .bool false, .slice Option.none 0 0, .slice Option.none 0 0], .iface u v]) (by simp [results, Tryf.results44, go_sem, k0, k1, k2, k3, k4]) rfl ⟨u, v, rfl, ?_⟩
  have hb2 : Below w.heap.size w w1 := (((Below.refl w.heap.size w).alloc (Nat.le_refl _) _).alloc (by simp) _).trans (hb1.mono (by simp; omega))
  exact ((((hb2.setCell (p := ⟨_, _, Option.none⟩) (Nat.le_refl _) _).setCell (p := ⟨_, _, Option.none⟩) (Nat.le_refl _) _).setCell (p := ⟨_, _, Option.none⟩) (Nat.le_refl _) _).setCell (p := ⟨_, _, Option.none⟩) (Nat.le_refl _) _).setCell (p := ⟨_, _, Option.none⟩) (Nat.le_refl _) _

set_option maxHeartbeats 1000000 in
set_option maxRecDepth 100000 in
theorem next44_no (I : Interp) (fb : Nat) (a : Option Addr) (n c : Nat) (F : Nat → Fld) (nm : ByteArray) (tag : Int) (comp : Bool) (w : World) (hI : I.answers w.tape) (h0 : w.cell? ⟨fb, 0, Option.none⟩ = some (.slice a n c)) (hn : 0 < n) (hr : RawsAt w a n F) (hf : fits (F 0) tag comp = false) :
    Calls Tryf.prog 44 #[.pointer (some ⟨fb, 0, Option.none⟩), .string nm, .int .i64 tag, .bool comp] w (NextNo w) := by
  have hfb := cell_lt h0
  obtain ⟨rb, ro, e0, hcs⟩ := hr hn
  cases e0
  obtain ⟨c0, c1, c2, c3, c4⟩ := hcs 0 hn
  simp only [Nat.zero_mul, Nat.add_zero] at c0 c1 c2 c3 c4
  have hrb := cell_lt c0
  have hlti : (0 : Int) < (n : Int) := by omega
  have hne : ((n : Int) == 0) = false := by simp; omega
  have HF : Hid (decide ((F 0).cls = 0 ∧ (F 0).tag = tag ∧ (F 0).comp = comp) = false) := hf
  clear hcs hr hf
  go_enter Tryf.func44, Tryf.ntmps44
  go_wp2_with fail
  refine (isUniversal65 (F 0) tag comp _).mono ?_
  rw [show UniPost (F 0) tag comp = fun w e w' => e = .returned (.bool false) ∧ Below w.heap.size w w' from by funext w e w'; unfold UniPost; rw [unhide HF]]
  rintro e w1 ⟨rfl, hb1⟩
  have hz := hb1.size
  simp at hz
  have htape := hb1.tape
  go_wp2_with fail
  refine (errorf38 I nm w1.heap.size _ (by show I.answers w1.tape; rw [htape]; exact hI) (by simp)).mono ?_
  rintro e w2 ⟨u, v, rfl, hb2⟩
  have hz2 := hb2.size
  simp at hz2
  have hb12 : Below (w.heap.size + 1) (w.alloc (.cells #[.int .i64 0, .int .i64 0, .bool false, .slice Option.none 0 0, .slice Option.none 0 0] 81)) w2 := by
    refine ((hb1.mono (by simp)).alloc (by omega) (.cells #[.iface 9 (.string nm)] 20)).trans (hb2.mono (by simp; omega))
  have k0 : w2.cell? ⟨w.heap.size, 0, Option.none⟩ = some (.int .i64 0) := by rw [hb12.cell (p := ⟨w.heap.size, _, Option.none⟩) (Nat.lt_succ_self _)]; simp
  have k1 : w2.cell? ⟨w.heap.size, 1, Option.none⟩ = some (.int .i64 0) := by rw [hb12.cell (p := ⟨w.heap.size, _, Option.none⟩) (Nat.lt_succ_self _)]; simp
  have k2 : w2.cell? ⟨w.heap.size, 2, Option.none⟩ = some (.bool false) := by rw [hb12.cell (p := ⟨w.heap.size, _, Option.none⟩) (Nat.lt_succ_self _)]; simp
  have k3 : w2.cell? ⟨w.heap.size, 3, Option.none⟩ = some (.slice Option.none 0 0) := by rw [hb12.cell (p := ⟨w.heap.size, _, Option.none⟩) (Nat.lt_succ_self _)]; simp
  have k4 : w2.cell? ⟨w.heap.size, 4, Option.none⟩ = some (.slice Option.none 0 0) := by rw [hb12.cell (p := ⟨w.heap.size, _, Option.none⟩) (Nat.lt_succ_self _)]; simp
  have f0 : ∀ o, w2.frozen? ⟨w.heap.size, o, Option.none⟩ = false := fun o => by rw [hb12.frozen (p := ⟨w.heap.size, o, Option.none⟩) (Nat.lt_succ_self _)]; simp
  clear htape
  go_wp2
  refine bodyPost_ret (v := .tuple #[.agg #[.int .i64 0, .int .i64 0, .bool false, .slice Option.none 0 0, .slice Option.none 0 0], .iface u v]) (by simp [results, Tryf.results44, go_sem, k0, k1, k2, k3, k4]) rfl ⟨u, v, rfl, ?_⟩
  have hb3 : Below w.heap.size w w2 := ((Below.refl w.heap.size w).alloc (Nat.le_refl _) _).trans (hb12.mono (Nat.le_succ _))
  exact ((((hb3.setCell (p := ⟨_, _, Option.none⟩) (Nat.le_refl _) _).setCell (p := ⟨_, _, Option.none⟩) (Nat.le_refl _) _).setCell (p := ⟨_, _, Option.none⟩) (Nat.le_refl _) _).setCell (p := ⟨_, _, Option.none⟩) (Nat.le_refl _) _).setCell (p := ⟨_, _, Option.none⟩) (Nat.le_refl _) _

/-- The world that next leaves where it takes a field. -/
def yesWorld (w1 : World) (fb B : Nat) (S v0 v1 v2 v3 v4 : Value) (o : Obj) : World :=
  (((((((w1.setCell ⟨fb, 0, Option.none⟩ S).setCell ⟨B, 0, Option.none⟩ v0).setCell ⟨B, 1, Option.none⟩ v1).setCell ⟨B, 2, Option.none⟩ v2).setCell ⟨B, 3, Option.none⟩ v3).setCell ⟨B, 4, Option.none⟩ v4).alloc o)

theorem size_sc (w : World) (a : Addr) (v : Value) : (w.setCell a v).heap.size = w.heap.size := by simp [World.setCell]

theorem yesWorld_size (w1 : World) (fb B : Nat) (S v0 v1 v2 v3 v4 : Value) (o : Obj) : (yesWorld w1 fb B S v0 v1 v2 v3 v4 o).heap.size = w1.heap.size + 1 := by
  unfold yesWorld
  rw [Deep.nblk_alloc]
  rw [size_sc, size_sc, size_sc, size_sc, size_sc, size_sc]

theorem yesWorld_block (w1 : World) (fb B : Nat) (S v0 v1 v2 v3 v4 : Value) (o : Obj) (k : Nat) (hk : k < w1.heap.size) (h1 : k ≠ fb) (h2 : k ≠ B) : (yesWorld w1 fb B S v0 v1 v2 v3 v4 o).heap[k]? = w1.heap[k]? := by
  unfold yesWorld
  rw [Below.heap_alloc _ _ _ (by rw [size_sc, size_sc, size_sc, size_sc, size_sc, size_sc]; exact hk), Below.heap_setCell _ _ _ _ h2, Below.heap_setCell _ _ _ _ h2, Below.heap_setCell _ _ _ _ h2, Below.heap_setCell _ _ _ _ h2, Below.heap_setCell _ _ _ _ h2, Below.heap_setCell _ _ _ _ h1]

theorem setCell_same {w : World} {b o : Nat} {S S0 : Value} (h : w.cell? ⟨b, o, Option.none⟩ = some S0) : (w.setCell ⟨b, o, Option.none⟩ S).cell? ⟨b, o, Option.none⟩ = some S := World.cell?_setCell_same _ _ _ h

theorem yesWorld_cell {w1 : World} {fb B : Nat} {S S0 v0 v1 v2 v3 v4 : Value} {o : Obj} (h : w1.cell? ⟨fb, 0, Option.none⟩ = some S0) (h2 : fb ≠ B) : (yesWorld w1 fb B S v0 v1 v2 v3 v4 o).cell? ⟨fb, 0, Option.none⟩ = some S := by
  have hlt := cell_lt h
  have e : (yesWorld w1 fb B S v0 v1 v2 v3 v4 o).heap[fb]? = (w1.setCell ⟨fb, 0, Option.none⟩ S).heap[fb]? := by
    unfold yesWorld
    rw [Below.heap_alloc _ _ _ (by rw [size_sc, size_sc, size_sc, size_sc, size_sc, size_sc]; exact hlt), Below.heap_setCell _ _ _ _ h2, Below.heap_setCell _ _ _ _ h2, Below.heap_setCell _ _ _ _ h2, Below.heap_setCell _ _ _ _ h2, Below.heap_setCell _ _ _ _ h2]
  exact (World.cell?_of_block (w := w1.setCell ⟨fb, 0, Option.none⟩ S) (a := ⟨fb, 0, Option.none⟩) e).trans (setCell_same h)

theorem yesWorld_streams (w1 : World) (fb B : Nat) (S v0 v1 v2 v3 v4 : Value) (o : Obj) : Below 0 w1 (yesWorld w1 fb B S v0 v1 v2 v3 v4 o) :=
  ((((((((Below.refl 0 w1).setCell (Nat.zero_le _) _).setCell (Nat.zero_le _) _).setCell (Nat.zero_le _) _).setCell (Nat.zero_le _) _).setCell (Nat.zero_le _) _).setCell (Nat.zero_le _) _).alloc (Nat.zero_le _) _)

theorem yesWorld_grown {w w1 : World} {fb : Nat} {S v0 v1 v2 v3 v4 : Value} {o : Obj} (h : Below w.heap.size w w1) : w.grownBy (yesWorld w1 fb w.heap.size S v0 v1 v2 v3 v4 o) (some fb) := by
  have hs := h.size
  have hy := yesWorld_streams w1 fb w.heap.size S v0 v1 v2 v3 v4 o
  refine ⟨hy.os.trans h.os, hy.tape.trans h.tape, hy.output.trans h.output, ?_, fun k hk hne => ?_⟩
  · rw [yesWorld_size]; omega
  · rw [yesWorld_block _ _ _ _ _ _ _ _ _ _ _ (by omega) (fun e => hne (by rw [e])) (by omega)]
    exact h.block k hk

theorem RawsAt.tail {w w' : World} {rb ro n : Nat} {F : Nat → Fld} (h : RawsAt w (some ⟨rb, ro, Option.none⟩) n F) (hb : w'.heap[rb]? = w.heap[rb]?) : RawsAt w' (some ⟨rb, ro + 5, Option.none⟩) (n - 1) (fun i => F (i + 1)) := by
  intro hn
  obtain ⟨b, off, ha, hc⟩ := h (by omega)
  cases ha
  refine ⟨rb, ro + 5, rfl, fun i hi => ?_⟩
  obtain ⟨h0, h1, h2, h3, h4⟩ := hc (i + 1) (by omega)
  have e : ∀ o, w'.cell? ⟨rb, o, Option.none⟩ = w.cell? ⟨rb, o, Option.none⟩ := fun o => World.cell?_of_block (w := w) hb
  have e2 : ro + (i + 1) * 5 = ro + 5 + i * 5 := by omega
  rw [e2] at h0 h1 h2 h3 h4
  exact ⟨(e _).trans h0, (e _).trans h1, (e _).trans h2, (e _).trans h3, (e _).trans h4⟩

/-- next takes the first field. -/
def NextYes (fb n c : Nat) (F : Nat → Fld) (w : World) (e : Ending) (w' : World) : Prop :=
  e = .returned (.tuple #[.agg #[.int .i64 (F 0).cls, .int .i64 (F 0).tag, .bool (F 0).comp, .slice (F 0).ba (F 0).bn (F 0).bc, .slice Option.none 0 0], .nilIface]) ∧
    ∃ a', w'.cell? ⟨fb, 0, Option.none⟩ = some (.slice a' (n - 1) (c - 1)) ∧ RawsAt w' a' (n - 1) (fun i => F (i + 1)) ∧ w.grownBy w' (some fb)

set_option maxHeartbeats 1000000 in
set_option maxRecDepth 100000 in
theorem next44_yes (fb : Nat) (a : Option Addr) (n c : Nat) (F : Nat → Fld) (nm : ByteArray) (tag : Int) (comp : Bool) (w : World) (h0 : w.cell? ⟨fb, 0, Option.none⟩ = some (.slice a n c)) (hfz : w.frozen? ⟨fb, 0, Option.none⟩ = false) (hn : 0 < n) (hc : n ≤ c) (hr : RawsAt w a n F) (hrf : ∀ b off, a = some ⟨b, off, Option.none⟩ → b ≠ fb) (hf : fits (F 0) tag comp = true) :
    Calls Tryf.prog 44 #[.pointer (some ⟨fb, 0, Option.none⟩), .string nm, .int .i64 tag, .bool comp] w (NextYes fb n c F w) := by
  have hfb := cell_lt h0
  obtain ⟨rb, ro, e0, hcs⟩ := hr hn
  cases e0
  obtain ⟨c0, c1, c2, c3, c4⟩ := hcs 0 hn
  simp only [Nat.zero_mul, Nat.add_zero] at c0 c1 c2 c3 c4
  have hrb := cell_lt c0
  have hlti : (0 : Int) < (n : Int) := by omega
  have hne : ((n : Int) == 0) = false := by simp; omega
  have HF : Hid (decide ((F 0).cls = 0 ∧ (F 0).tag = tag ∧ (F 0).comp = comp) = true) := hf
  clear hcs hf
  go_enter Tryf.func44, Tryf.ntmps44
  go_wp2_with fail
  refine (isUniversal65 (F 0) tag comp _).mono ?_
  rw [show UniPost (F 0) tag comp = fun w e w' => e = .returned (.bool true) ∧ Below w.heap.size w w' from by funext w e w'; unfold UniPost; rw [unhide HF]]
  rintro e w1 ⟨rfl, hb1⟩
  have hz := hb1.size
  simp at hz
  have hbw : Below w.heap.size w w1 := ((Below.refl w.heap.size w).alloc (Nat.le_refl _) _).trans (hb1.mono (by simp))
  have hbn : Below (w.heap.size + 1) (w.alloc (.cells #[.int .i64 0, .int .i64 0, .bool false, .slice Option.none 0 0, .slice Option.none 0 0] 81)) w1 := hb1.mono (by simp)
  have k0 : w1.cell? ⟨w.heap.size, 0, Option.none⟩ = some (.int .i64 0) := by rw [hbn.cell (p := ⟨w.heap.size, _, Option.none⟩) (Nat.lt_succ_self _)]; simp
  have k1 : w1.cell? ⟨w.heap.size, 1, Option.none⟩ = some (.int .i64 0) := by rw [hbn.cell (p := ⟨w.heap.size, _, Option.none⟩) (Nat.lt_succ_self _)]; simp
  have k2 : w1.cell? ⟨w.heap.size, 2, Option.none⟩ = some (.bool false) := by rw [hbn.cell (p := ⟨w.heap.size, _, Option.none⟩) (Nat.lt_succ_self _)]; simp
  have k3 : w1.cell? ⟨w.heap.size, 3, Option.none⟩ = some (.slice Option.none 0 0) := by rw [hbn.cell (p := ⟨w.heap.size, _, Option.none⟩) (Nat.lt_succ_self _)]; simp
  have k4 : w1.cell? ⟨w.heap.size, 4, Option.none⟩ = some (.slice Option.none 0 0) := by rw [hbn.cell (p := ⟨w.heap.size, _, Option.none⟩) (Nat.lt_succ_self _)]; simp
  have f0 : ∀ o, w1.frozen? ⟨w.heap.size, o, Option.none⟩ = false := fun o => by rw [hbn.frozen (p := ⟨w.heap.size, o, Option.none⟩) (Nat.lt_succ_self _)]; simp
  have g0 := cell_below hbw h0
  have gf : w1.frozen? ⟨fb, 0, Option.none⟩ = false := by rw [hbw.frozen (p := ⟨fb, 0, Option.none⟩) hfb]; exact hfz
  have d0 := cell_below hbw c0
  have d1 := cell_below hbw c1
  have d2 := cell_below hbw c2
  have d3 := cell_below hbw c3
  have d4 := cell_below hbw c4
  have hr1 := hr.below hbw
  have hfb1 : fb < w1.heap.size := by omega
  have hw1 : w.heap.size < w1.heap.size := by omega
  have hfw : fb ≠ w.heap.size := by omega
  clear hr c0 c1 c2 c3 c4 hb1
  by_cases hc1 : c = 1
  · subst hc1
    have hn1 : n = 1 := by omega
    subst hn1
    go_wp2
    refine bodyPost_ret (v := .tuple #[.agg #[.int .i64 (F 0).cls, .int .i64 (F 0).tag, .bool (F 0).comp, .slice (F 0).ba (F 0).bn (F 0).bc, .slice Option.none 0 0], .nilIface]) (by simp [results, Tryf.results44, go_sem, hw1, k0, k1, k2, k3, k4]) rfl ⟨rfl, _, yesWorld_cell g0 hfw, fun h => absurd h (Nat.lt_irrefl _), yesWorld_grown hbw⟩
  · go_wp2
    refine bodyPost_ret (v := .tuple #[.agg #[.int .i64 (F 0).cls, .int .i64 (F 0).tag, .bool (F 0).comp, .slice (F 0).ba (F 0).bn (F 0).bc, .slice Option.none 0 0], .nilIface]) (by simp [results, Tryf.results44, go_sem, hw1, k0, k1, k2, k3, k4]) rfl ⟨rfl, _, yesWorld_cell g0 hfw, hr1.tail (yesWorld_block _ _ _ _ _ _ _ _ _ _ _ (by omega) (hrf _ _ rfl) (by omega)), yesWorld_grown hbw⟩
end Go.Proofs.Qxb6001688aFmt
