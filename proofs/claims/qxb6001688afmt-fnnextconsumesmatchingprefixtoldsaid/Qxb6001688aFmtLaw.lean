import Derived.Test.Qxb6001688aFmtGuard
import Derived.Deep.DeepCutAuto
import Derived.Deep.CutBlock
import Derived.Deep.RegionHeld3
import Derived.Deep.DrawnRows
namespace Go.Proofs.Qxb6001688aFmt
open Go.RowKit Go.Own Go.Extern.Stop Go.Stop Go.Extern
attribute [local go_sem ↓] Go.wp_at_zero Go.wp_at_succ

set_option maxHeartbeats 16000000 in
set_option maxRecDepth 100000 in
theorem law7 (I : Interp) (a0 a1 a2 a3 a4 a5 : Option Addr) (n0 c0 n1 c1 n2 c2 n3 c3 n4 c4 n5 c5 : Nat) (X Y : Nat → Int) (B : Nat → Bool) (P : Nat → Int) (U : Nat → Int) (V : Nat → Bool) (w : World) (hI : I.answers w.tape)
    (h0 : SliceAt w a0 n0 c0 (fun i => .int .i64 (X i))) (h1 : SliceAt w a1 n1 c1 (fun i => .int .i64 (Y i))) (h2 : SliceAt w a2 n2 c2 (fun i => .bool (B i))) (h3 : SliceAt w a3 n3 c3 (fun i => .int .u8 (P i)))
    (h4 : SliceAt w a4 n4 c4 (fun i => .int .i64 (U i))) (h5 : SliceAt w a5 n5 c5 (fun i => .bool (V i))) :
    Calls Tryf.prog 7 #[.slice a0 n0 c0, .slice a1 n1 c1, .slice a2 n2 c2, .slice a3 n3 c3, .slice a4 n4 c4, .slice a5 n5 c5] w (TrueBelow w) := by
  by_cases hsz : n0 ≤ 1024 ∧ n1 ≤ 1024 ∧ n2 ≤ 1024 ∧ n3 ≤ 1024 ∧ n4 ≤ 1024 ∧ n5 ≤ 1024
  · obtain ⟨s0, s1, s2, s3, s4, s5⟩ := hsz
    by_cases heq : n1 = n0 ∧ n2 = n0 ∧ n3 = n0 ∧ n5 = n4
    · obtain ⟨e1, e2, e3, e5⟩ := heq
      subst e1 e2 e3 e5
      go_enter Tryf.func7, Tryf.ntmps7
      go_wp2_with fail
      refine (zzBytes23 _ _ _ _ _ _ _ _ _ _ _ _ _ _ _ _ _ _ _).mono ?_
      rintro e w1 ⟨b, rfl, rfl⟩
      cases b
      · go_wp2
        go_ret
        exact ⟨rfl, Below.refl _ _⟩
      go_wp2_with fail
      refine (cloneInts_any _ _ _ X _ (by omega) h0).mono ?_
      rintro e w1 ⟨b0, d0, rfl, z1, -, g0, -⟩
      have i1 := h1.below z1
      go_wp2_with fail
      refine (cloneInts_any _ _ _ Y _ (by omega) i1).mono ?_
      rintro e w2 ⟨b1, d1, rfl, z2, -, g1, -⟩
      have i2 := (h2.below z1).below z2
      go_wp2_with fail
      refine (cloneBools_any _ _ _ B _ (by omega) i2).mono ?_
      rintro e w3 ⟨b2, d2, rfl, z3, -, g2, -⟩
      have i3 := ((h3.below z1).below z2).below z3
      go_wp2_with fail
      refine (cloneBytes_any _ _ _ P _ (by omega) i3).mono ?_
      rintro e w4 ⟨b3, d3, rfl, z4, -, g3, -⟩
      have i4 := (((h4.below z1).below z2).below z3).below z4
      go_wp2_with fail
      refine (cloneInts_any _ _ _ U _ (by omega) i4).mono ?_
      rintro e w5 ⟨b4, d4, rfl, z5, -, g4, -⟩
      have i5 := ((((h5.below z1).below z2).below z3).below z4).below z5
      go_wp2_with fail
      refine (cloneBools_any _ _ _ V _ (by omega) i5).mono ?_
      rintro e w6 ⟨b5, d5, rfl, z6, -, g5, -⟩
      replace g0 := ((((g0.below z2).below z3).below z4).below z5).below z6
      replace g1 := (((g1.below z3).below z4).below z5).below z6
      replace g2 := ((g2.below z4).below z5).below z6
      replace g3 := (g3.below z5).below z6
      replace g4 := g4.below z6
      go_wp2_with fail
      refine (build27 _ _ _ _ _ _ _ _ _ X Y B P _ s0 g0 g1 g2 g3).mono ?_
      rintro e w7 ⟨F, rfl, z7, gF, hF⟩
      replace g0 := g0.below z7
      replace g1 := g1.below z7
      replace g2 := g2.below z7
      replace g4 := g4.below z7
      replace g5 := g5.below z7
      have Z := below_step (below_step (below_step (below_step (below_step (below_step z1 z2) z3) z4) z5) z6) z7
      have HF := hide hF
      have hif : Tryf.prog.isIface 29 = true := by kernel_rfl
      clear h0 h1 h2 h3 h4 h5 i1 i2 i3 i4 i5 g3 hF
      go_upto_block 0 with fail
      go_cut [15] (fun s15 wc => ∃ (K j : Nat), s15 = .int .i64 K ∧ Longest n3 n5 (mt X Y B U V) K ∧ wc = w7.drewN j)
      case first =>
        go_wp2_with fail
        go_loopw [15] (fun t wr => ∃ k : Nat, k ≤ n3 ∧ k ≤ n5 ∧ t = .int .i64 k ∧ (∀ i, i < k → mt X Y B U V i = true) ∧ ∃ j, wr = w7.drewN j) (fun t _ => n3 - (intOf t).toNat)
        case atStart => exact ⟨0, Nat.zero_le _, Nat.zero_le _, rfl, fun i hi => absurd hi (Nat.not_lt_zero _), 0, rfl⟩
        case round =>
          obtain ⟨k, hk1, hk2, rfl, hall, j, rfl⟩ := hrel
          have HA := hide hall
          clear hall
          by_cases hl1 : k < n3
          · by_cases hl2 : k < n5
            · have q1 : decide ((k : Int) < (n3 : Int)) = true := by simp; omega
              have q2 : decide ((k : Int) < (n5 : Int)) = true := by simp; omega
              have q3 : (k : Int) < (n3 : Int) := by omega
              have q4 : (k : Int) < (n5 : Int) := by omega
              obtain ⟨x0, y0, e0, hc0⟩ := g0.cells (by omega)
              obtain ⟨x1, y1, e1, hc1⟩ := g1.cells (by omega)
              obtain ⟨x2, y2, e2, hc2⟩ := g2.cells (by omega)
              obtain ⟨x4, y4, e4, hc4⟩ := g4.cells (by omega)
              obtain ⟨x5, y5, e5, hc5⟩ := g5.cells (by omega)
              subst e0 e1 e2 e4 e5
              replace hc0 := hc0 k hl1
              replace hc1 := hc1 k hl1
              replace hc2 := hc2 k hl1
              replace hc4 := hc4 k hl2
              replace hc5 := hc5 k hl2
              by_cases m1 : X k = 0
              · have r1 : (X k == 0) = true := by simp [m1]
                by_cases m2 : Y k = U k
                · have r2 : (Y k == U k) = true := by simp [m2]
                  by_cases m3 : B k = V k
                  · have r3 : (B k == V k) = true := by simp [m3]
                    have HS : Hid (mt X Y B U V k = true) := by simp [Hid, mt, m1, m2, m3]
                    clear m1 m2 m3
                    go_wp2
                    go_quiet (fail)
                    go_wp2
                    go_roundw
                    case rel =>
                      refine ⟨k + 1, by omega, by omega, by go_num, fun i hi => ?_, j + nq, by simp⟩
                      by_cases e : i = k
                      · rw [e]; exact unhide HS
                      · exact unhide HA i (by omega)
                    case measure => simp [intOf]; omega
                  · have r3 : (B k == V k) = false := by simp [m3]
                    have HS : Hid (mt X Y B U V k = false) := by simp [Hid, mt, m3]
                    clear m1 m2 m3
                    go_wp2
                    go_quiet (fail)
                    go_wp2
                    go_meet
                    exact ⟨k, j + nq, rfl, ⟨hk1, hk2, unhide HA, .inr (.inr (unhide HS))⟩, by simp⟩
                · have r2 : (Y k == U k) = false := by simp [m2]
                  have HS : Hid (mt X Y B U V k = false) := by simp [Hid, mt, m2]
                  clear m1 m2
                  go_wp2
                  go_quiet (fail)
                  go_wp2
                  go_meet
                  exact ⟨k, j + nq, rfl, ⟨hk1, hk2, unhide HA, .inr (.inr (unhide HS))⟩, by simp⟩
              · have r1 : (X k == 0) = false := by simp [m1]
                have HS : Hid (mt X Y B U V k = false) := by simp [Hid, mt, m1]
                clear m1
                go_wp2
                go_quiet (fail)
                go_wp2
                go_meet
                exact ⟨k, j + nq, rfl, ⟨hk1, hk2, unhide HA, .inr (.inr (unhide HS))⟩, by simp⟩
            · have q1 : decide ((k : Int) < (n3 : Int)) = true := by simp; omega
              have q2 : decide ((k : Int) < (n5 : Int)) = false := by simp; omega
              go_wp2
              go_quiet (fail)
              go_wp2
              go_meet
              exact ⟨k, j + nq, rfl, ⟨hk1, hk2, unhide HA, .inr (.inl (by omega))⟩, by simp⟩
          · have q1 : decide ((k : Int) < (n3 : Int)) = false := by simp; omega
            go_wp2
            go_quiet (fail)
            go_wp2
            go_meet
            exact ⟨k, j + nq, rfl, ⟨hk1, hk2, unhide HA, .inl (by omega)⟩, by simp⟩
      case rest =>
        obtain ⟨K, j, rfl, hK, rfl⟩ := hcut
        have HK := hide hK
        have hK1 := hK.le1
        have hK2 := hK.le2
        clear hK g0 g1 g2
        have hIt : I.answers w7.tape := by rw [Z.tape]; exact hI
        go_upto_block 2 with fail
        go_cut [16, 17] (fun s16 s17 wc => ∃ (ca : Option Addr) (cc : Nat), s16 = .slice ca (n3 - K) cc ∧ s17 = .int .i64 K ∧ FldsAt wc ca (n3 - K) (fun i => F (K + i)) ∧ Below w7.heap.size w7 wc)
        case first =>
          go_wp2_with fail
          go_loopw [16, 17, 18] (fun s16 s17 s18 wr => ∃ q : Nat, q ≤ n5 ∧ q ≤ K ∧ s18 = .int .i64 q ∧ s17 = .int .i64 q ∧ Below w7.heap.size w7 wr ∧ ∃ (ca : Option Addr) (cc : Nat), s16 = .slice ca (n3 - q) cc ∧ FldsAt wr ca (n3 - q) (fun i => F (q + i))) (fun _ _ s18 _ => n5 - (intOf s18).toNat)
          case atStart => exact ⟨0, Nat.zero_le _, Nat.zero_le _, rfl, rfl, below_drewN' (Below.refl _ _) j, _, _, rfl, fun h => by simpa using gF h⟩
          case round =>
            obtain ⟨q, hq1, hq2, rfl, rfl, hb, ca, cc, rfl, hfl⟩ := hrel
            by_cases hlt : q < n5
            · obtain ⟨x4, y4, e4, hc4⟩ := g4.cells (by omega)
              obtain ⟨x5, y5, e5, hc5⟩ := g5.cells (by omega)
              subst e4 e5
              have t4 := cell_below hb (hc4 q hlt)
              have t5 := cell_below hb (hc5 q hlt)
              have hx4 := cell_lt t4
              have hx5 := cell_lt t5
              have q4 : (q : Int) < (n5 : Int) := by omega
              have hn1 : n3 - q ≤ 1024 := by omega
              by_cases hqK : q < K
              · have hfit : fits (F q) (U q) (V q) = true := by
                  obtain ⟨f0, f1, f2, -⟩ := unhide HF q (by omega)
                  rw [fits_of f0 f1 f2]
                  exact (unhide HK).all q hqK
                have hBq := (unhide HF q (by omega)).2.2.2
                have hn2 : 0 < n3 - q := by omega
                clear hc4 hc5
                go_upto_region 23 with fail
                go_cut [19, 20, 21] (fun s19 s20 s21 wc => ∃ (ra : Option Addr) (vb : Nat), s19 = .slice ra (n3 - q - 1) (n3 - q - 1) ∧ s20 = .pointer (some ⟨vb, 0, Option.none⟩) ∧ s21 = .nilIface ∧ Got wr (n3 - q - 1) (fun i => F (q + (i + 1))) (F q) ra vb wc)
                case first =>
                  go_region_held3 (fun w' => w'.cell? ⟨x4, y4 + q, Option.none⟩ = some (.int .i64 (U q)) ∧ w'.cell? ⟨x5, y5 + q, Option.none⟩ = some (.bool (V q)))
                    (first | with_reducible exact ⟨cell_d t4, cell_d t5⟩ | with_reducible exact ⟨cell_ad t4, cell_ad t5⟩ | with_reducible exact ⟨cell_below_d hb8 t4, cell_below_d hb8 t5⟩ | with_reducible exact ⟨cell_below_a hb8 t4, cell_below_a hb8 t5⟩ | with_reducible exact ⟨cell_al (cell_below_d hb8 t4), cell_al (cell_below_d hb8 t5)⟩ | with_reducible exact ⟨cell_set4 (cell_below_a hb8 t4) hx4, cell_set4 (cell_below_a hb8 t5) hx5⟩ | go_keep)
                    (first
                    | (go_at_call 28; refine Calls.mono (zzNext28_yes ca (n3 - q) cc (fun i => F (q + i)) _ (U q) (V q) _ hn1 ?_ hn2 hfit) ?_; exact hfl.below (Below.refl _ _).drew; rintro e w8 ⟨ra, rfl, hb8, hf8, hlo8⟩; simp only [fldVal, Nat.add_zero])
                    | (go_at_call 28; refine Calls.mono (zzNext28_yes ca (n3 - q) cc (fun i => F (q + i)) _ (U q) (V q) _ hn1 ?_ hn2 hfit) ?_; exact hfl.below ((Below.refl _ _).alloc (Nat.le_refl _) _).drew; rintro e w8 ⟨ra, rfl, hb8, hf8, hlo8⟩; simp only [fldVal, Nat.add_zero]; obtain ⟨k0, k1, k2, k3, kf, kz⟩ := zero_below hb8))
                  all_goals
                    go_wp2_with fail
                    go_meet
                    first
                    | exact ⟨ra, _, rfl, rfl, rfl, gotA hb8 hf8 (F q)⟩
                    | exact ⟨ra, _, rfl, rfl, rfl, gotB hb8 hf8 hlo8 k0 k1 k2 k3 (F q)⟩
                case rest =>
                  obtain ⟨ra, vb, rfl, rfl, rfl, hb8, hf8, k0, k1, k2, k3⟩ := hcut
                  obtain ⟨fb, fo, fe, hfc⟩ := gF (by omega)
                  cases fe
                  obtain ⟨r0, r1, r2, r3⟩ := hfc q (by omega)
                  have hb7 : Below w7.heap.size w7 wc := hb.trans (hb8.mono hb.size)
                  replace r0 := cell_below hb7 r0
                  replace r1 := cell_below hb7 r1
                  replace r2 := cell_below hb7 r2
                  replace r3 := cell_below hb7 r3
                  have q5 : decide ((n3 : Int) ≤ (q : Int)) = false := by simp; omega
                  have q7 : decide (n3 ≤ q) = false := by simp; omega
                  have q6 : (q : Int) < (n3 : Int) := by omega
                  simp only [Nat.zero_add] at r0 r1 r2 r3
                  have hB9 : BytesAt wc.drew (F q) := (hBq.below hb7).below (Below.refl _ _).drew
                  clear hfc hBq
                  go_wp2_with fail
                  go_region_held3 (fun w' => w'.cell? ⟨vb, 0, Option.none⟩ = some (.int .i64 (F q).cls) ∧ w'.cell? ⟨vb, 1, Option.none⟩ = some (.int .i64 (F q).tag) ∧ w'.cell? ⟨vb, 2, Option.none⟩ = some (.bool (F q).comp) ∧ w'.cell? ⟨vb, 3, Option.none⟩ = some (.slice (F q).ba (F q).bn (F q).bc) ∧
                      w'.cell? ⟨w6.heap.size, q * 4, Option.none⟩ = some (.int .i64 (F q).cls) ∧ w'.cell? ⟨w6.heap.size, q * 4 + 1, Option.none⟩ = some (.int .i64 (F q).tag) ∧ w'.cell? ⟨w6.heap.size, q * 4 + 2, Option.none⟩ = some (.bool (F q).comp) ∧ w'.cell? ⟨w6.heap.size, q * 4 + 3, Option.none⟩ = some (.slice (F q).ba (F q).bn (F q).bc))
                    (first | with_reducible exact ⟨cell_d k0, cell_d k1, cell_d k2, cell_d k3, cell_d r0, cell_d r1, cell_d r2, cell_d r3⟩ | with_reducible exact ⟨cell_below_d hb9 k0, cell_below_d hb9 k1, cell_below_d hb9 k2, cell_below_d hb9 k3, cell_below_d hb9 r0, cell_below_d hb9 r1, cell_below_d hb9 r2, cell_below_d hb9 r3⟩ | go_keep)
                    (first | (go_at_call 31; refine (sameField31 (F q) _ hB9).mono ?_; rintro e w9 ⟨rfl, hb9⟩))
                  all_goals
                    go_wp2
                    go_roundw
                    case rel =>
                      have hb9' : Below wc.heap.size wc w9 := ⟨hb9.os, hb9.tape, hb9.output, hb9.size, hb9.block⟩
                      refine ⟨q + 1, by omega, by omega, by go_num, by go_num, hb7.trans (hb9'.mono hb7.size), ra, n3 - q - 1, by rw [show n3 - (q + 1) = n3 - q - 1 from by omega], ?_⟩
                      rw [show n3 - (q + 1) = n3 - q - 1 from by omega]
                      exact (hf8.below hb9').congr (fun i hi => by rw [show q + (i + 1) = q + 1 + i from by omega])
                    case measure => simp [intOf]; omega
              · have hqe : q = K := by omega
                have hno : n3 - q = 0 ∨ fits (F (q + 0)) (U q) (V q) = false := by
                  rcases (unhide HK).stop with h | h | h
                  · exact .inl (by omega)
                  · omega
                  · by_cases hz : n3 - q = 0
                    · exact .inl hz
                    · right
                      obtain ⟨f0, f1, f2, -⟩ := unhide HF q (by omega)
                      rw [Nat.add_zero, fits_of f0 f1 f2, hqe]
                      exact h
                have hBall : ∀ i, i < n3 - q → BytesAt w7 (F (q + i)) := fun i hi => (unhide HF (q + i) (by omega)).2.2.2
                have HQ := hide hqe
                clear hqe
                have hIr : I.answers wr.drew.tape := by show I.answers wr.tape; rw [hb.tape]; exact hIt
                go_upto_region 23 with fail
                go_cut [19, 20, 21] (fun s19 s20 s21 wc => ∃ (ra : Option Addr) (vb : Nat), s19 = .slice ra (n3 - q) (n3 - q) ∧ s20 = .pointer (some ⟨vb, 0, Option.none⟩) ∧ (∃ u v, s21 = .iface u v) ∧ Got wr (n3 - q) (fun i => F (q + i)) fldZero ra vb wc)
                case first =>
                  clear hc4 hc5
                  go_region_held3 (fun w' => w'.cell? ⟨x4, y4 + q, Option.none⟩ = some (.int .i64 (U q)) ∧ w'.cell? ⟨x5, y5 + q, Option.none⟩ = some (.bool (V q)))
                    (first | with_reducible exact ⟨cell_d t4, cell_d t5⟩ | with_reducible exact ⟨cell_ad t4, cell_ad t5⟩ | with_reducible exact ⟨cell_below_d hb8 t4, cell_below_d hb8 t5⟩ | with_reducible exact ⟨cell_below_a hb8 t4, cell_below_a hb8 t5⟩ | with_reducible exact ⟨cell_al (cell_below_d hb8 t4), cell_al (cell_below_d hb8 t5)⟩ | with_reducible exact ⟨cell_set4 (cell_below_a hb8 t4) hx4, cell_set4 (cell_below_a hb8 t5) hx5⟩ | go_keep)
                    (first
                    | (go_at_call 28; refine Calls.mono (zzNext28_no I ca (n3 - q) cc (fun i => F (q + i)) _ (U q) (V q) _ hIr hn1 ?_ hno) ?_; exact hfl.below (Below.refl _ _).drew; rintro e w8 ⟨ra, u, v, rfl, hb8, hf8, hlo8⟩; simp only [fldVal, fldZero])
                    | (go_at_call 28; refine Calls.mono (zzNext28_no I ca (n3 - q) cc (fun i => F (q + i)) _ (U q) (V q) _ hIr hn1 ?_ hno) ?_; exact hfl.below ((Below.refl _ _).alloc (Nat.le_refl _) _).drew; rintro e w8 ⟨ra, u, v, rfl, hb8, hf8, hlo8⟩; simp only [fldVal, fldZero]; obtain ⟨k0, k1, k2, k3, kf, kz⟩ := zero_below hb8))
                  all_goals
                    go_wp2_with fail
                    go_meet
                    first
                    | exact ⟨ra, _, rfl, rfl, ⟨u, v, rfl⟩, gotA hb8 hf8 fldZero⟩
                    | exact ⟨ra, _, rfl, rfl, ⟨u, v, rfl⟩, gotB hb8 hf8 hlo8 k0 k1 k2 k3 fldZero⟩
                case rest =>
                  obtain ⟨ra, vb, rfl, rfl, ⟨u, v, rfl⟩, hb8, hf8, k0, k1, k2, k3⟩ := hcut
                  simp only [fldZero] at k0 k1 k2 k3
                  have hb7 : Below w7.heap.size w7 wc := hb.trans (hb8.mono hb.size)
                  go_wp2_with fail
                  refine (sameList29 _ _ _ _ _ (fun i => F (q + i)) _ hf8 (hfl.below hb8) (fun i hi => (hBall i hi).below hb7) hn1).mono ?_
                  rintro e w9 ⟨rfl, hb9⟩
                  replace k0 := cell_below hb9 k0
                  replace k1 := cell_below hb9 k1
                  replace k2 := cell_below hb9 k2
                  replace k3 := cell_below hb9 k3
                  go_wp2_with fail
                  refine (isZero30 _).mono ?_
                  rintro e w10 ⟨rfl, hb10⟩
                  have hb10w : Below wr.heap.size wr w10 := (hb8.trans (hb9.mono hb8.size)).trans (hb10.mono (Nat.le_trans hb8.size hb9.size))
                  have hb10s : Below w7.heap.size w7 w10 := hb.trans (hb10w.mono hb.size)
                  have t6 := cell_below hb10s (hc4 q hlt)
                  have t7 := cell_below hb10s (hc5 q hlt)
                  have hx6 := cell_lt t6
                  have hx7 := cell_lt t7
                  have hf10 := (hf8.below hb9).below hb10
                  have hIr2 : I.answers w10.drew.tape := by show I.answers w10.tape; rw [hb10s.tape]; exact hIt
                  clear hc4 hc5
                  go_upto_region 27 with fail
                  go_cut [22, 23, 24] (fun s22 s23 s24 wc => ∃ (ra : Option Addr) (vb : Nat), s22 = .slice ra (n3 - q) (n3 - q) ∧ s23 = .pointer (some ⟨vb, 0, Option.none⟩) ∧ (∃ u v, s24 = .iface u v) ∧ Got w10 (n3 - q) (fun i => F (q + i)) fldZero ra vb wc)
                  case first =>
                    go_region_held3 (fun w' => w'.cell? ⟨x4, y4 + q, Option.none⟩ = some (.int .i64 (U q)) ∧ w'.cell? ⟨x5, y5 + q, Option.none⟩ = some (.bool (V q)))
                      (first | with_reducible exact ⟨cell_d t6, cell_d t7⟩ | with_reducible exact ⟨cell_ad t6, cell_ad t7⟩ | with_reducible exact ⟨cell_below_d hb11 t6, cell_below_d hb11 t7⟩ | with_reducible exact ⟨cell_below_a hb11 t6, cell_below_a hb11 t7⟩ | with_reducible exact ⟨cell_al (cell_below_d hb11 t6), cell_al (cell_below_d hb11 t7)⟩ | with_reducible exact ⟨cell_set4 (cell_below_a hb11 t6) hx6, cell_set4 (cell_below_a hb11 t7) hx7⟩ | go_keep)
                      (first
                      | (go_at_call 28; refine Calls.mono (zzNext28_no I ra (n3 - q) (n3 - q) (fun i => F (q + i)) _ (U q) (V q) _ hIr2 hn1 ?_ hno) ?_; exact hf10.below (Below.refl _ _).drew; rintro e w11 ⟨ra2, u2, v2, rfl, hb11, hf11, hlo11⟩; simp only [fldVal, fldZero])
                      | (go_at_call 28; refine Calls.mono (zzNext28_no I ra (n3 - q) (n3 - q) (fun i => F (q + i)) _ (U q) (V q) _ hIr2 hn1 ?_ hno) ?_; exact hf10.below ((Below.refl _ _).alloc (Nat.le_refl _) _).drew; rintro e w11 ⟨ra2, u2, v2, rfl, hb11, hf11, hlo11⟩; simp only [fldVal, fldZero]; obtain ⟨l0, l1, l2, l3, lf, lz⟩ := zero_below hb11))
                    all_goals
                      go_wp2_with fail
                      go_meet
                      first
                      | exact ⟨ra2, _, rfl, rfl, ⟨u2, v2, rfl⟩, gotA hb11 hf11 fldZero⟩
                      | exact ⟨ra2, _, rfl, rfl, ⟨u2, v2, rfl⟩, gotB hb11 hf11 hlo11 l0 l1 l2 l3 fldZero⟩
                  case rest =>
                    obtain ⟨ra2, vb2, rfl, rfl, ⟨u2, v2, rfl⟩, hb11, hf11, l0, l1, l2, l3⟩ := hcut
                    simp only [fldZero] at l0 l1 l2 l3
                    have hb11s : Below w7.heap.size w7 wc := hb10s.trans (hb11.mono hb10s.size)
                    have hb11w : Below wr.heap.size wr wc := hb10w.trans (hb11.mono hb10w.size)
                    go_wp2_with fail
                    refine (sameList29 _ _ _ _ _ (fun i => F (q + i)) _ hf11 (hfl.below hb11w) (fun i hi => (hBall i hi).below hb11s) hn1).mono ?_
                    rintro e w12 ⟨rfl, hb12⟩
                    replace l0 := cell_below hb12 l0
                    replace l1 := cell_below hb12 l1
                    replace l2 := cell_below hb12 l2
                    replace l3 := cell_below hb12 l3
                    go_wp2_with fail
                    refine (isZero30 _).mono ?_
                    rintro e w13 ⟨rfl, hb13⟩
                    go_wp2_with fail
                    go_meet
                    have hb13w : Below wr.heap.size wr w13 := (hb11w.trans (hb12.mono hb11w.size)).trans (hb13.mono (Nat.le_trans hb11w.size hb12.size))
                    have e := unhide HQ
                    subst e
                    exact ⟨ca, cc, rfl, rfl, hfl.below hb13w, hb.trans (hb13w.mono hb.size)⟩
            · go_wp2
              go_meet
              have e : q = K := by omega
              subst e
              exact ⟨ca, cc, rfl, rfl, hfl, hb⟩
        case rest =>
          obtain ⟨ca, cc, rfl, rfl, hfl, hb⟩ := hcut
          have hBall : ∀ i, i < n3 - K → BytesAt wc (F (K + i)) := fun i hi => (unhide HF (K + i) (by omega)).2.2.2.below hb
          have gF2 : FldsAt wc (some ⟨w6.heap.size, 0, Option.none⟩) n3 F := gF.below hb
          have hn1 : n3 - K ≤ 1024 := by omega
          by_cases hnK : n3 = K
          · have gT : FldsAt wc (some ⟨w6.heap.size, 0, Option.none⟩) (n3 - K) (fun i => F (K + i)) := fun h => absurd h (by omega)
            have hz : n3 - K = 0 := by omega
            rw [hz] at hfl gT hBall
            subst hnK
            go_wp2_with fail
            refine (sameList29 _ _ _ _ _ (fun i => F (n3 + i)) _ hfl gT hBall (by omega)).mono ?_
            rintro e w9 ⟨rfl, hb9⟩
            go_wp2
            go_ret
            exact ⟨rfl, Z.trans ((hb.trans (hb9.mono hb.size)).mono Z.size)⟩
          · go_wp2_with fail
            refine (sameList29 _ _ _ _ _ (fun i => F (K + i)) _ hfl gF2.tail hBall hn1).mono ?_
            rintro e w9 ⟨rfl, hb9⟩
            go_wp2
            go_ret
            exact ⟨rfl, Z.trans ((hb.trans (hb9.mono hb.size)).mono Z.size)⟩
    · exact law7_uneq _ _ _ _ _ _ _ _ _ _ _ _ _ _ _ _ _ _ _ ⟨s0, s1, s2, s3, s4, s5⟩ heq
  · exact law7_big _ _ _ _ _ _ _ _ _ _ _ _ _ _ _ _ _ _ _ hsz
end Go.Proofs.Qxb6001688aFmt
