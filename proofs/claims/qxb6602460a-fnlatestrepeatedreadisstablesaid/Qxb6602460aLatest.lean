import Derived.Test.Qxb6602460aTabs
import Derived.Deep.QuietTactic
import Derived.BigQuiet
namespace Go.Proofs.Qxb6602460a
open Go.RowKit Go.Maps Go.Own

/-- How much of a list is left when its dead tail is dropped. -/
def trim (live : Nat → Bool) : Nat → Nat
  | 0 => 0
  | k + 1 => if live k then k + 1 else trim live k

theorem trim_le (live : Nat → Bool) : ∀ n, trim live n ≤ n
  | 0 => Nat.le_refl _
  | k + 1 => by
    unfold trim
    split
    · exact Nat.le_refl _
    · exact Nat.le_succ_of_le (trim_le live k)

/-- What latest answers. -/
def lastOf (x : Nat → Int) : Nat → Int
  | 0 => 0
  | k + 1 => x k

/-- No list is stored at the item. -/
def LatestNone (w : World) (e : Ending) (w' : World) : Prop := e = .returned (.int .i64 0) ∧ w' = w

def LatestSome (b : Nat) (n : Nat) (F : Lit → Option Value) (sz : Nat) (kl : Lit) (a : Option Addr) (c m : Nat) (x : Nat → Int) (w : World) (e : Ending) (w' : World) : Prop :=
  e = .returned (.int .i64 (lastOf x m)) ∧ Tab Try.prog 9 w' (.map (some b)) (n + 1) (upd F kl (.slice a m c)) sz ∧ w.grownBy w' (some b)

set_option maxHeartbeats 400000 in
theorem latest_none (wb : Nat) (v : Value) (it : ByteArray) (n sz : Nat) (F : Lit → Option Value) (w : World) (hit : it.size ≤ maxLen)
    (h0 : w.cell? ⟨wb, 0, Option.none⟩ = some v) (ht : Tab Try.prog 9 w v n F sz) (hF : F (skey it) = Option.none) :
    Calls Try.prog 39 #[.pointer (some ⟨wb, 0, Option.none⟩), .string it] w (LatestNone w) := by
  have hrun := ht.look_ok law9 Try.underlying41 (zero22 w) (skey_ok hit)
  rw [hF] at hrun
  simp only [Option.getD_none, Option.isSome_none] at hrun
  clear hF
  go_enter Try.func39, Try.ntmps39
  go_wp2
  go_ret
  exact ⟨rfl, rfl⟩

theorem grown_drewN {w w1 : World} {q b : Nat} (hg : (w.drewN q).grownBy w1 (some b)) : w.grownBy w1 (some b) := ⟨hg.os, hg.tape, hg.output, hg.size, hg.block⟩

set_option maxHeartbeats 400000 in
theorem latest_some (wb b : Nat) (va : Value) (it : ByteArray) (n sz : Nat) (F : Lit → Option Value) (a : Option Addr) (nx c : Nat) (x : Nat → Int) (w : World) (hit : it.size ≤ maxLen) (m sa : Nat) (G : Lit → Option Value) (dead : Nat → Bool)
    (h0 : w.cell? ⟨wb, 0, Option.none⟩ = some (.map (some b))) (h1 : w.cell? ⟨wb, 1, Option.none⟩ = some va) (ht : Tab Try.prog 9 w (.map (some b)) n F sz) (hF : F (skey it) = some (.slice a nx c))
    (hx : SliceAt w a nx c (fun i => .int .i64 (x i))) (hG : Tab Try.prog 3 w va m G sa) (hd : ∀ i, i < nx → (G (ikey (x i))).getD (.bool false) = .bool (dead i)) (hwf : ∀ i, i < nx → (Lit.int .i64 (x i)).wf = true) (hnx : nx ≤ 1048576) (hn : n < 1048576) :
    Calls Try.prog 39 #[.pointer (some ⟨wb, 0, Option.none⟩), .string it] w (LatestSome b n F sz (skey it) a c (trim (fun i => !dead i) nx) x w) := by
  have hrun := ht.look_ok law9 Try.underlying41 (zero22 w) (skey_ok hit)
  rw [hF] at hrun
  simp only [Option.getD_some, Option.isSome_some] at hrun
  have HF := hide hF
  clear hF
  go_enter Try.func39, Try.ntmps39
  go_wp2
  go_loopw [5] (fun t wr => ∃ k : Nat, k ≤ nx ∧ t = .slice a k c ∧ (∃ j, wr = w.drewN j) ∧ trim (fun i => !dead i) k = trim (fun i => !dead i) nx) (fun t _ => match t with | .slice _ k _ => k | _ => 0)
  case atStart => exact ⟨nx, Nat.le_refl _, rfl, ⟨0, rfl⟩, rfl⟩
  case round =>
    obtain ⟨k, hk, rfl, ⟨j, rfl⟩, htr⟩ := hrel
    have hcap := hx.cap
    have HT := hide htr
    clear htr hrun
    cases k with
    | zero =>
      have hdz : decide ((0 : Int) < 0) = false := by simp
      go_wp2
      go_quiet (fail)
      obtain ⟨w1, hrun, htab1, hg1, hs1⟩ := (ht.drewN (j + nq)).store (val := .slice a 0 c) law9 Try.underlying41 (by unfold maxLen; omega) (skey_ok hit)
      rw [unhide HF] at htab1
      go_wp2
      go_ret
      rw [← unhide HT]
      exact ⟨rfl, by simpa [trim] using htab1, grown_drewN hg1⟩
    | succ k =>
      obtain ⟨sb, so, hsb, hcs⟩ := hx.cells (by omega)
      subst hsb
      have hck := hcs k (by omega)
      have hdt : decide ((0 : Int) < ((k + 1 : Nat) : Int)) = true := by simp
      have hlk : ∀ q, (Instr.lookup 43 va (.int .i64 (x k)) false).run Try.prog (w.drewN q) = .ok (.bool (dead k)) (w.drewN q) := fun q => by
        rw [← hd k (by omega)]
        exact (hG.drewN q).look law3 Try.underlying43 (zero4 _) (ikey_ok (hwf k (by omega)))
      clear hcs
      cases hdk : dead k
      · rw [hdk] at hlk
        go_wp2
        go_quiet (fail)
        obtain ⟨w1, hrun, htab1, hg1, hs1⟩ := (ht.drewN (j + nq)).store (val := .slice (some ⟨sb, so, Option.none⟩) (k + 1) c) law9 Try.underlying41 (by unfold maxLen; omega) (skey_ok hit)
        rw [unhide HF] at htab1
        have hck1 := cell_kept hg1 (map_only (ht.drewN (j + nq))) hck
        go_wp2
        go_ret
        rw [← unhide HT]
        have e1 : trim (fun i => !dead i) (k + 1) = k + 1 := by simp [trim, hdk]
        rw [e1]
        exact ⟨rfl, by simpa using htab1, grown_drewN hg1⟩
      · rw [hdk] at hlk
        go_wp2
        go_quiet (fail)
        go_wp2
        go_roundw
        case rel =>
          have e1 : trim (fun i => !dead i) (k + 1) = trim (fun i => !dead i) k := by simp [trim, hdk]
          exact ⟨k, by omega, rfl, ⟨_, rfl⟩, by rw [← e1]; exact unhide HT⟩
        case measure => simp

/-- No list is stored at the item: nothing that was there turns. -/
def ZZNone (w : World) (e : Ending) (w' : World) : Prop := e = .returned (.int .i64 0) ∧ w.grownBy w' Option.none

set_option maxHeartbeats 400000 in
theorem zzLatest_none (v va : Value) (bv ba : Option Nat) (hv : v = .map bv) (hva : va = .map ba) (it : ByteArray) (n sz : Nat) (F : Lit → Option Value) (w : World) (hit : it.size ≤ maxLen)
    (ht : Tab Try.prog 9 w v n F sz) (hF : F (skey it) = Option.none) :
    Calls Try.prog 34 #[v, va, .string it] w (ZZNone w) := by
  subst hv hva
  have ht' : Tab Try.prog 9 (w.alloc (.cells #[.map bv, .map ba] 57)) (.map bv) n F sz := ht.kept (World.grownBy_alloc w _ Option.none) (fun _ _ => by simp)
  go_enter Try.func34, Try.ntmps34
  go_wp2_with fail
  refine (latest_none w.heap.size (.map bv) it n sz F _ hit (cell_new w _ _ _ rfl) ht' hF).mono ?_
  rintro e w1 ⟨rfl, rfl⟩
  go_wp2
  go_ret
  exact ⟨rfl, World.grownBy_alloc w _ Option.none⟩

set_option maxHeartbeats 400000 in
theorem zzLatest_some (b : Nat) (va : Value) (ba : Option Nat) (hva : va = .map ba) (it : ByteArray) (n sz : Nat) (F : Lit → Option Value) (a : Option Addr) (nx c : Nat) (x : Nat → Int) (w : World) (hit : it.size ≤ maxLen) (m sa : Nat) (G : Lit → Option Value) (dead : Nat → Bool)
    (ht : Tab Try.prog 9 w (.map (some b)) n F sz) (hF : F (skey it) = some (.slice a nx c))
    (hx : SliceAt w a nx c (fun i => .int .i64 (x i))) (hG : Tab Try.prog 3 w va m G sa) (hd : ∀ i, i < nx → (G (ikey (x i))).getD (.bool false) = .bool (dead i)) (hwf : ∀ i, i < nx → (Lit.int .i64 (x i)).wf = true) (hnx : nx ≤ 1048576) (hn : n < 1048576) :
    Calls Try.prog 34 #[.map (some b), va, .string it] w (LatestSome b n F sz (skey it) a c (trim (fun i => !dead i) nx) x w) := by
  subst hva
  have ht' : Tab Try.prog 9 (w.alloc (.cells #[.map (some b), .map ba] 57)) (.map (some b)) n F sz := ht.kept (World.grownBy_alloc w _ Option.none) (fun _ _ => by simp)
  have hG' : Tab Try.prog 3 (w.alloc (.cells #[.map (some b), .map ba] 57)) (.map ba) m G sa := hG.kept (World.grownBy_alloc w _ Option.none) (fun _ _ => by simp)
  have hx' : SliceAt (w.alloc (.cells #[.map (some b), .map ba] 57)) a nx c (fun i => .int .i64 (x i)) := hx.kept (World.grownBy_alloc w _ Option.none) (OnlyMap.none w)
  have HF := hide hF
  clear hF
  go_enter Try.func34, Try.ntmps34
  go_wp2_with fail
  refine (latest_some w.heap.size b (.map ba) it n sz F a nx c x _ hit m sa G dead (cell_new w _ _ _ rfl) (cell_new w _ _ _ rfl) ht' (unhide HF) hx' hG' hd hwf hnx hn).mono ?_
  rintro e w1 ⟨rfl, ht1, hg1⟩
  go_wp2
  go_ret
  exact ⟨rfl, ht1, (World.grownBy_alloc w _ (some b)).trans hg1⟩
end Go.Proofs.Qxb6602460a
