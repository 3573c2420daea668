import Derived.Test.Qxb6002590aDoorPred
namespace Go.Proofs.Qxb6002590aDoor
open Go.RowKit Go.Sort

/-- The number that the first digits give. -/
def pv (f : Nat → Nat) : Nat → Int
  | 0 => 0
  | k + 1 => pv f k * 10 + ((f k : Int) - 48)

theorem pv_bound (f : Nat → Nat) (L : Nat) (hd : ∀ i, i < L → 48 ≤ f i ∧ f i ≤ 57) (hL : L ≤ 3) : ∀ k, k ≤ L → 0 ≤ pv f k ∧ pv f k ≤ 999 := by
  intro k hk
  match k, hk with
  | 0, _ => exact ⟨by simp [pv], by simp [pv]⟩
  | 1, h => have := hd 0 (by omega); simp only [pv]; omega
  | 2, h => have := hd 0 (by omega); have := hd 1 (by omega); simp only [pv]; omega
  | 3, h => have := hd 0 (by omega); have := hd 1 (by omega); have := hd 2 (by omega); simp only [pv]; omega
  | k + 4, h => omega

theorem ne_of_len {S : ByteArray} {l : List UInt8} (h : S.size ≠ l.length) : (S.toList == l) = false := by
  rw [ByteArray.toList_eq]
  cases h2 : (S.data.toList == l)
  · rfl
  · exact absurd (by rw [← beq_iff_eq.1 h2]; rfl) h

set_option maxHeartbeats 2000000 in
set_option maxRecDepth 100000 in
theorem parseS1 (S T : ByteArray) (f : Nat → Nat) (N : Nat) (w : World) (hS : S.size = 5) (hT : S.extract 3 4 = T) (hTs : T.size = 1)
    (e0 : ∀ h, (S[0]'h).toNat = 79) (e1 : ∀ h, (S[1]'h).toNat = 112) (e2 : ∀ h, (S[2]'h).toNat = 40) (e3 : ∀ h, (S[4]'h).toNat = 41)
    (hf : ∀ i (h : i < T.size), (T[i]'h).toNat = f i) (hd : ∀ i, i < 1 → 48 ≤ f i ∧ f i ≤ 57) (hz : f 0 ≠ 48) (hN : pv f 1 = N) (hM : N ≤ 255) :
    Calls Tryd.prog 4 #[.string S] w (Parsed N w) := by
  have m0 : (S.toList == [61]) = false := ne_of_len (by simp [hS])
  have m1 : (S.toList == [60]) = false := ne_of_len (by simp [hS])
  have m2 : (S.toList == [60, 61]) = false := ne_of_len (by simp [hS])
  have m3 : (S.toList == [62]) = false := ne_of_len (by simp [hS])
  have m4 : (S.toList == [62, 61]) = false := ne_of_len (by simp [hS])
  have g0 := hf 0 (by omega)
  have qz : ((f 0 : Int) == 48) = false := by simp; omega
  have hb := pv_bound f 1 hd (by omega)
  have q5 : decide ((255 : Int) < N) = false := by simp; omega
  have q6 : (N : Int) ≤ 255 := by omega
  go_enter Tryd.func4, Tryd.ntmps4
  go_wp2
  go_loopw [5, 6] (fun a i wr => ∃ k : Nat, k ≤ 1 ∧ i = .int .i64 k ∧ a = .int .i64 (pv f k) ∧ wr = w) (fun _ i _ => 1 - (intOf i).toNat)
  case atStart => exact ⟨0, by omega, rfl, rfl, rfl⟩
  case round =>
    obtain ⟨k, hk, rfl, rfl, rfl⟩ := hrel
    by_cases hlt : k < 1
    · have l0 : k < T.size := by omega
      have l1 : (k : Int) < 1 := by omega
      have l2 : decide ((k : Int) < 1) = true := by simp; omega
      obtain ⟨d1, d2⟩ := hd k hlt
      obtain ⟨b1, b2⟩ := hb k hk
      have gk := hf k l0
      have q1 : decide ((f k : Int) < 48) = false := by simp; omega
      have q2 : decide ((57 : Int) < f k) = false := by simp; omega
      have q3 : (48 : Int) ≤ f k := by omega
      have q4 : (f k : Int) ≤ 57 := by omega
      clear hb hd hf
      go_wp2
      go_roundw
      case rel => exact ⟨k + 1, by omega, by go_num, rfl, trivial⟩
      case measure => simp [intOf]; omega
    · have hke : k = 1 := by omega
      subst hke
      rw [hN]
      go_wp2
      exact bodyPost_ret (v := .tuple #[.int .u8 N, .bool true]) (by simp [results, Tryd.results4, go_sem]) rfl ⟨rfl, rfl⟩

set_option maxHeartbeats 2000000 in
set_option maxRecDepth 100000 in
theorem parseS2 (S T : ByteArray) (f : Nat → Nat) (N : Nat) (w : World) (hS : S.size = 6) (hT : S.extract 3 5 = T) (hTs : T.size = 2)
    (e0 : ∀ h, (S[0]'h).toNat = 79) (e1 : ∀ h, (S[1]'h).toNat = 112) (e2 : ∀ h, (S[2]'h).toNat = 40) (e3 : ∀ h, (S[5]'h).toNat = 41)
    (hf : ∀ i (h : i < T.size), (T[i]'h).toNat = f i) (hd : ∀ i, i < 2 → 48 ≤ f i ∧ f i ≤ 57) (hz : f 0 ≠ 48) (hN : pv f 2 = N) (hM : N ≤ 255) :
    Calls Tryd.prog 4 #[.string S] w (Parsed N w) := by
  have m0 : (S.toList == [61]) = false := ne_of_len (by simp [hS])
  have m1 : (S.toList == [60]) = false := ne_of_len (by simp [hS])
  have m2 : (S.toList == [60, 61]) = false := ne_of_len (by simp [hS])
  have m3 : (S.toList == [62]) = false := ne_of_len (by simp [hS])
  have m4 : (S.toList == [62, 61]) = false := ne_of_len (by simp [hS])
  have g0 := hf 0 (by omega)
  have qz : ((f 0 : Int) == 48) = false := by simp; omega
  have hb := pv_bound f 2 hd (by omega)
  have q5 : decide ((255 : Int) < N) = false := by simp; omega
  have q6 : (N : Int) ≤ 255 := by omega
  go_enter Tryd.func4, Tryd.ntmps4
  go_wp2
  go_loopw [5, 6] (fun a i wr => ∃ k : Nat, k ≤ 2 ∧ i = .int .i64 k ∧ a = .int .i64 (pv f k) ∧ wr = w) (fun _ i _ => 2 - (intOf i).toNat)
  case atStart => exact ⟨0, by omega, rfl, rfl, rfl⟩
  case round =>
    obtain ⟨k, hk, rfl, rfl, rfl⟩ := hrel
    by_cases hlt : k < 2
    · have l0 : k < T.size := by omega
      have l1 : (k : Int) < 2 := by omega
      have l2 : decide ((k : Int) < 2) = true := by simp; omega
      obtain ⟨d1, d2⟩ := hd k hlt
      obtain ⟨b1, b2⟩ := hb k hk
      have gk := hf k l0
      have q1 : decide ((f k : Int) < 48) = false := by simp; omega
      have q2 : decide ((57 : Int) < f k) = false := by simp; omega
      have q3 : (48 : Int) ≤ f k := by omega
      have q4 : (f k : Int) ≤ 57 := by omega
      clear hb hd hf
      go_wp2
      go_roundw
      case rel => exact ⟨k + 1, by omega, by go_num, rfl, trivial⟩
      case measure => simp [intOf]; omega
    · have hke : k = 2 := by omega
      subst hke
      rw [hN]
      go_wp2
      exact bodyPost_ret (v := .tuple #[.int .u8 N, .bool true]) (by simp [results, Tryd.results4, go_sem]) rfl ⟨rfl, rfl⟩

set_option maxHeartbeats 2000000 in
set_option maxRecDepth 100000 in
theorem parseS3 (S T : ByteArray) (f : Nat → Nat) (N : Nat) (w : World) (hS : S.size = 7) (hT : S.extract 3 6 = T) (hTs : T.size = 3)
    (e0 : ∀ h, (S[0]'h).toNat = 79) (e1 : ∀ h, (S[1]'h).toNat = 112) (e2 : ∀ h, (S[2]'h).toNat = 40) (e3 : ∀ h, (S[6]'h).toNat = 41)
    (hf : ∀ i (h : i < T.size), (T[i]'h).toNat = f i) (hd : ∀ i, i < 3 → 48 ≤ f i ∧ f i ≤ 57) (hz : f 0 ≠ 48) (hN : pv f 3 = N) (hM : N ≤ 255) :
    Calls Tryd.prog 4 #[.string S] w (Parsed N w) := by
  have m0 : (S.toList == [61]) = false := ne_of_len (by simp [hS])
  have m1 : (S.toList == [60]) = false := ne_of_len (by simp [hS])
  have m2 : (S.toList == [60, 61]) = false := ne_of_len (by simp [hS])
  have m3 : (S.toList == [62]) = false := ne_of_len (by simp [hS])
  have m4 : (S.toList == [62, 61]) = false := ne_of_len (by simp [hS])
  have g0 := hf 0 (by omega)
  have qz : ((f 0 : Int) == 48) = false := by simp; omega
  have hb := pv_bound f 3 hd (by omega)
  have q5 : decide ((255 : Int) < N) = false := by simp; omega
  have q6 : (N : Int) ≤ 255 := by omega
  go_enter Tryd.func4, Tryd.ntmps4
  go_wp2
  go_loopw [5, 6] (fun a i wr => ∃ k : Nat, k ≤ 3 ∧ i = .int .i64 k ∧ a = .int .i64 (pv f k) ∧ wr = w) (fun _ i _ => 3 - (intOf i).toNat)
  case atStart => exact ⟨0, by omega, rfl, rfl, rfl⟩
  case round =>
    obtain ⟨k, hk, rfl, rfl, rfl⟩ := hrel
    by_cases hlt : k < 3
    · have l0 : k < T.size := by omega
      have l1 : (k : Int) < 3 := by omega
      have l2 : decide ((k : Int) < 3) = true := by simp; omega
      obtain ⟨d1, d2⟩ := hd k hlt
      obtain ⟨b1, b2⟩ := hb k hk
      have gk := hf k l0
      have q1 : decide ((f k : Int) < 48) = false := by simp; omega
      have q2 : decide ((57 : Int) < f k) = false := by simp; omega
      have q3 : (48 : Int) ≤ f k := by omega
      have q4 : (f k : Int) ≤ 57 := by omega
      clear hb hd hf
      go_wp2
      go_roundw
      case rel => exact ⟨k + 1, by omega, by go_num, rfl, trivial⟩
      case measure => simp [intOf]; omega
    · have hke : k = 3 := by omega
      subst hke
      rw [hN]
      go_wp2
      exact bodyPost_ret (v := .tuple #[.int .u8 N, .bool true]) (by simp [results, Tryd.results4, go_sem]) rfl ⟨rfl, rfl⟩

end Go.Proofs.Qxb6002590aDoor
