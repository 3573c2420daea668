import Derived.Test.Qxb6002590aAgreeC
namespace Go.Proofs.Qxb6002590a
open Go.RowKit Go.Own

set_option maxHeartbeats 8000000 in
set_option maxRecDepth 100000 in
theorem agree12 (s : Sp) (ok po : Bool) (pa ka : Option Addr) (pc kc rb : Nat) (pfx k : List Int) (L U : Option Addr) (pla pha : Option Addr) (plc phc : Nat) (P1 P2 : List Int) (w : World) (Q : Exit → Act → World → Prop) (Z : Code) (a : Act) (s21 s22 s23 : Value)
    (hk : BytesAt w ka kc k) (hpl : BytesAt w pla plc P1) (l1 : k.length ≤ 4194304) (l2 : P1.length ≤ 4194304)
    (hF : Fr10 a (.agg #[.pointer L, .pointer U, .bool false, .int .i64 0]) (.bool ok) (.slice pa pfx.length pc) (.bool po) (.slice s.la s.lo.length s.lc) (.slice s.ha s.hi.length s.hc) (.bool s.le) (.bool s.he) (.slice ka k.length kc) (.pointer (some ⟨rb, 0, Option.none⟩)) (.bool false) (.slice pla P1.length plc) (.slice pha P2.length phc) (s21) (s22) (s23))
    (hZ : ∀ a' w', Fr10 a' (.agg #[.pointer L, .pointer U, .bool false, .int .i64 0]) (.bool ok) (.slice pa pfx.length pc) (.bool po) (.slice s.la s.lo.length s.lc) (.slice s.ha s.hi.length s.hc) (.bool s.le) (.bool s.he) (.slice ka k.length kc) (.pointer (some ⟨rb, 0, Option.none⟩)) (.bool false) (.slice pla P1.length plc) (.slice pha P2.length phc) (s21) (.bool (if ex1 s = true then (decide (0 < cmp k P1) && !pre P1 k) else decide (0 ≤ cmp k P1))) (s23) → (∃ j, w' = w.drewN j) → Code.wp Try.prog Z Q a' w') :
    Code.wp Try.prog (.seq (stm Try.f10.body 11) (.seq (stm Try.f10.body 12) Z)) Q a w := by
  have hc := cmp26 ka pla kc plc k P1 w l1 l2 hk hpl
  have hp := fun j => pre27 ka pla kc plc k P1 (w.drewN j) l1 l2 (hk.drewN j) (hpl.drewN j)
  have hnl := nnil22
  generalize cmp k P1 = C at hc hZ
  generalize pre P1 k = p at hp hZ
  clear hk hpl
  obtain ⟨la, lc, lo, ha, hc0, hi, le, he, na⟩ := s
  simp only [ex1] at hF hZ
  cases la with
  | none =>
    simp only [Option.isNone_none, Bool.not_true, Bool.false_and, Bool.false_eq_true, if_false] at hZ
    have HZ := hide hZ
    clear hZ hp
    refine fr_open10 (fun a => Code.wp Try.prog (.seq (stm Try.f10.body 11) (.seq (stm Try.f10.body 12) Z)) Q a w) a hF ?_
    intro u10 u11 u12 u13 u14 u15 u16 u17 u24 u25 u26 u27 u28 u29 u30 u31 u32 u33 u34 u35 u36 u37 u38 u39 u40 u41 u42 u43 u44 u45 u46 u47 u48 u49 u50 u51 u52 u53 u54 u55 u56 u57 u58 u59 u60 u61 u62 u63 u64 u65 u66 u67 u68 u69 u70 u71 u72 u73 u74 u75 u76 u77 u78 u79 u80 u81 u82 u83 u84 u85 u86 u87 u88 u89 u90 u91 u92 u93 u94 u95 u96 u97 u98 u99 u100 u101 u102 u103 u104 u105 u106 u107 u108 u109 u110 u111 u112 u113 u114 u115 u116 u117 u118 u119 u120 u121 u122 u123 u124 u125 u126 u127 u128 u129 u130 u131 u132 u133 u134 u135 u136 u137 u138 u139 u140 u141 u142 u143 u144 u145 u146 u147 u148 u149 u150 u151 u152
    dsimp only
    conv => arg 2; arg 1; whnf
    conv => arg 2; arg 2; arg 1; whnf
    go_wp2_with fail
    refine hc.mono ?_
    rintro e w0 ⟨rfl, j0, rfl⟩
    go_wp2_with fail
    exact unhide HZ _ _ ⟨rfl, rfl, rfl, rfl, rfl, rfl, rfl, rfl, rfl, rfl, rfl, rfl, rfl, rfl, rfl, rfl, rfl, rfl⟩ (by first | exact ⟨_, rfl⟩ | exact ⟨0, rfl⟩ | exact drawn_more _ ⟨_, rfl⟩)
  | some ad =>
    cases le with
    | false =>
      simp only [Bool.and_false, Bool.false_eq_true, if_false] at hZ
      have HZ := hide hZ
      clear hZ hp
      refine fr_open10 (fun a => Code.wp Try.prog (.seq (stm Try.f10.body 11) (.seq (stm Try.f10.body 12) Z)) Q a w) a hF ?_
      intro u10 u11 u12 u13 u14 u15 u16 u17 u24 u25 u26 u27 u28 u29 u30 u31 u32 u33 u34 u35 u36 u37 u38 u39 u40 u41 u42 u43 u44 u45 u46 u47 u48 u49 u50 u51 u52 u53 u54 u55 u56 u57 u58 u59 u60 u61 u62 u63 u64 u65 u66 u67 u68 u69 u70 u71 u72 u73 u74 u75 u76 u77 u78 u79 u80 u81 u82 u83 u84 u85 u86 u87 u88 u89 u90 u91 u92 u93 u94 u95 u96 u97 u98 u99 u100 u101 u102 u103 u104 u105 u106 u107 u108 u109 u110 u111 u112 u113 u114 u115 u116 u117 u118 u119 u120 u121 u122 u123 u124 u125 u126 u127 u128 u129 u130 u131 u132 u133 u134 u135 u136 u137 u138 u139 u140 u141 u142 u143 u144 u145 u146 u147 u148 u149 u150 u151 u152
      dsimp only
      conv => arg 2; arg 1; whnf
      conv => arg 2; arg 2; arg 1; whnf
      go_wp2_with fail
      refine hc.mono ?_
      rintro e w0 ⟨rfl, j0, rfl⟩
      go_wp2_with fail
      exact unhide HZ _ _ ⟨rfl, rfl, rfl, rfl, rfl, rfl, rfl, rfl, rfl, rfl, rfl, rfl, rfl, rfl, rfl, rfl, rfl, rfl⟩ (by first | exact ⟨_, rfl⟩ | exact ⟨0, rfl⟩ | exact drawn_more _ ⟨_, rfl⟩)
    | true =>
      simp only [Option.isNone_some, Bool.not_false, Bool.and_true, if_true] at hZ
      by_cases h0 : 0 < C
      · have d0 : decide (0 < C) = true := decide_eq_true h0
        rw [d0] at hZ
        cases p
        · have HZ := hide hZ
          clear hZ
          refine fr_open10 (fun a => Code.wp Try.prog (.seq (stm Try.f10.body 11) (.seq (stm Try.f10.body 12) Z)) Q a w) a hF ?_
          intro u10 u11 u12 u13 u14 u15 u16 u17 u24 u25 u26 u27 u28 u29 u30 u31 u32 u33 u34 u35 u36 u37 u38 u39 u40 u41 u42 u43 u44 u45 u46 u47 u48 u49 u50 u51 u52 u53 u54 u55 u56 u57 u58 u59 u60 u61 u62 u63 u64 u65 u66 u67 u68 u69 u70 u71 u72 u73 u74 u75 u76 u77 u78 u79 u80 u81 u82 u83 u84 u85 u86 u87 u88 u89 u90 u91 u92 u93 u94 u95 u96 u97 u98 u99 u100 u101 u102 u103 u104 u105 u106 u107 u108 u109 u110 u111 u112 u113 u114 u115 u116 u117 u118 u119 u120 u121 u122 u123 u124 u125 u126 u127 u128 u129 u130 u131 u132 u133 u134 u135 u136 u137 u138 u139 u140 u141 u142 u143 u144 u145 u146 u147 u148 u149 u150 u151 u152
          dsimp only
          conv => arg 2; arg 1; whnf
          conv => arg 2; arg 2; arg 1; whnf
          go_wp2_with fail
          refine hc.mono ?_
          rintro e w0 ⟨rfl, j0, rfl⟩
          go_wp2_with fail
          refine (hp _).mono ?_
          rintro e w1 ⟨rfl, j1, rfl⟩
          go_wp2_with fail
          exact unhide HZ _ _ ⟨rfl, rfl, rfl, rfl, rfl, rfl, rfl, rfl, rfl, rfl, rfl, rfl, rfl, rfl, rfl, rfl, rfl, rfl⟩ (by first | exact ⟨_, rfl⟩ | exact ⟨0, rfl⟩ | exact drawn_more _ ⟨_, rfl⟩)
        · have HZ := hide hZ
          clear hZ
          refine fr_open10 (fun a => Code.wp Try.prog (.seq (stm Try.f10.body 11) (.seq (stm Try.f10.body 12) Z)) Q a w) a hF ?_
          intro u10 u11 u12 u13 u14 u15 u16 u17 u24 u25 u26 u27 u28 u29 u30 u31 u32 u33 u34 u35 u36 u37 u38 u39 u40 u41 u42 u43 u44 u45 u46 u47 u48 u49 u50 u51 u52 u53 u54 u55 u56 u57 u58 u59 u60 u61 u62 u63 u64 u65 u66 u67 u68 u69 u70 u71 u72 u73 u74 u75 u76 u77 u78 u79 u80 u81 u82 u83 u84 u85 u86 u87 u88 u89 u90 u91 u92 u93 u94 u95 u96 u97 u98 u99 u100 u101 u102 u103 u104 u105 u106 u107 u108 u109 u110 u111 u112 u113 u114 u115 u116 u117 u118 u119 u120 u121 u122 u123 u124 u125 u126 u127 u128 u129 u130 u131 u132 u133 u134 u135 u136 u137 u138 u139 u140 u141 u142 u143 u144 u145 u146 u147 u148 u149 u150 u151 u152
          dsimp only
          conv => arg 2; arg 1; whnf
          conv => arg 2; arg 2; arg 1; whnf
          go_wp2_with fail
          refine hc.mono ?_
          rintro e w0 ⟨rfl, j0, rfl⟩
          go_wp2_with fail
          refine (hp _).mono ?_
          rintro e w1 ⟨rfl, j1, rfl⟩
          go_wp2_with fail
          exact unhide HZ _ _ ⟨rfl, rfl, rfl, rfl, rfl, rfl, rfl, rfl, rfl, rfl, rfl, rfl, rfl, rfl, rfl, rfl, rfl, rfl⟩ (by first | exact ⟨_, rfl⟩ | exact ⟨0, rfl⟩ | exact drawn_more _ ⟨_, rfl⟩)
      · have d0 : decide (0 < C) = false := decide_eq_false h0
        rw [d0] at hZ
        have HZ := hide hZ
        clear hZ hp
        refine fr_open10 (fun a => Code.wp Try.prog (.seq (stm Try.f10.body 11) (.seq (stm Try.f10.body 12) Z)) Q a w) a hF ?_
        intro u10 u11 u12 u13 u14 u15 u16 u17 u24 u25 u26 u27 u28 u29 u30 u31 u32 u33 u34 u35 u36 u37 u38 u39 u40 u41 u42 u43 u44 u45 u46 u47 u48 u49 u50 u51 u52 u53 u54 u55 u56 u57 u58 u59 u60 u61 u62 u63 u64 u65 u66 u67 u68 u69 u70 u71 u72 u73 u74 u75 u76 u77 u78 u79 u80 u81 u82 u83 u84 u85 u86 u87 u88 u89 u90 u91 u92 u93 u94 u95 u96 u97 u98 u99 u100 u101 u102 u103 u104 u105 u106 u107 u108 u109 u110 u111 u112 u113 u114 u115 u116 u117 u118 u119 u120 u121 u122 u123 u124 u125 u126 u127 u128 u129 u130 u131 u132 u133 u134 u135 u136 u137 u138 u139 u140 u141 u142 u143 u144 u145 u146 u147 u148 u149 u150 u151 u152
        dsimp only
        conv => arg 2; arg 1; whnf
        conv => arg 2; arg 2; arg 1; whnf
        go_wp2_with fail
        refine hc.mono ?_
        rintro e w0 ⟨rfl, j0, rfl⟩
        go_wp2_with fail
        exact unhide HZ _ _ ⟨rfl, rfl, rfl, rfl, rfl, rfl, rfl, rfl, rfl, rfl, rfl, rfl, rfl, rfl, rfl, rfl, rfl, rfl⟩ (by first | exact ⟨_, rfl⟩ | exact ⟨0, rfl⟩ | exact drawn_more _ ⟨_, rfl⟩)

set_option maxHeartbeats 8000000 in
set_option maxRecDepth 100000 in
theorem agree14 (s : Sp) (ok po : Bool) (pa ka : Option Addr) (pc kc rb : Nat) (pfx k : List Int) (L U : Option Addr) (pla pha : Option Addr) (plc phc : Nat) (P1 P2 : List Int) (w : World) (Q : Exit → Act → World → Prop) (Z : Code) (a : Act) (s21 s22 s23 : Value)
    (hk : BytesAt w ka kc k) (hph : BytesAt w pha phc P2) (l1 : k.length ≤ 4194304) (l2 : P2.length ≤ 4194304)
    (hF : Fr10 a (.agg #[.pointer L, .pointer U, .bool false, .int .i64 0]) (.bool ok) (.slice pa pfx.length pc) (.bool po) (.slice s.la s.lo.length s.lc) (.slice s.ha s.hi.length s.hc) (.bool s.le) (.bool s.he) (.slice ka k.length kc) (.pointer (some ⟨rb, 0, Option.none⟩)) (.bool false) (.slice pla P1.length plc) (.slice pha P2.length phc) (s21) (s22) (s23))
    (hZ : ∀ a' w', Fr10 a' (.agg #[.pointer L, .pointer U, .bool false, .int .i64 0]) (.bool ok) (.slice pa pfx.length pc) (.bool po) (.slice s.la s.lo.length s.lc) (.slice s.ha s.hi.length s.hc) (.bool s.le) (.bool s.he) (.slice ka k.length kc) (.pointer (some ⟨rb, 0, Option.none⟩)) (.bool false) (.slice pla P1.length plc) (.slice pha P2.length phc) (s21) (s22) (.bool (if ex2 s = true then decide (cmp k P2 < 0) else (decide (cmp k P2 ≤ 0) || pre P2 k))) → (∃ j, w' = w.drewN j) → Code.wp Try.prog Z Q a' w') :
    Code.wp Try.prog (.seq (stm Try.f10.body 13) (.seq (stm Try.f10.body 14) Z)) Q a w := by
  have hc := cmp26 ka pha kc phc k P2 w l1 l2 hk hph
  have hp := fun j => pre27 ka pha kc phc k P2 (w.drewN j) l1 l2 (hk.drewN j) (hph.drewN j)
  have hnl := nnil22
  generalize cmp k P2 = C at hc hZ
  generalize pre P2 k = p at hp hZ
  clear hk hph
  obtain ⟨la, lc, lo, ha, hc0, hi, le, he, na⟩ := s
  simp only [ex2] at hF hZ
  have hw : (∃ ad, ha = some ad ∧ he = true) ∨ ((!ha.isNone && he) = false) := by cases ha <;> cases he <;> simp
  rcases hw with ⟨ad, rfl, rfl⟩ | hE
  · simp only [Option.isNone_some, Bool.not_false, Bool.and_true, if_true] at hZ
    have HZ := hide hZ
    clear hZ hp
    refine fr_open10 (fun a => Code.wp Try.prog (.seq (stm Try.f10.body 13) (.seq (stm Try.f10.body 14) Z)) Q a w) a hF ?_
    intro u10 u11 u12 u13 u14 u15 u16 u17 u24 u25 u26 u27 u28 u29 u30 u31 u32 u33 u34 u35 u36 u37 u38 u39 u40 u41 u42 u43 u44 u45 u46 u47 u48 u49 u50 u51 u52 u53 u54 u55 u56 u57 u58 u59 u60 u61 u62 u63 u64 u65 u66 u67 u68 u69 u70 u71 u72 u73 u74 u75 u76 u77 u78 u79 u80 u81 u82 u83 u84 u85 u86 u87 u88 u89 u90 u91 u92 u93 u94 u95 u96 u97 u98 u99 u100 u101 u102 u103 u104 u105 u106 u107 u108 u109 u110 u111 u112 u113 u114 u115 u116 u117 u118 u119 u120 u121 u122 u123 u124 u125 u126 u127 u128 u129 u130 u131 u132 u133 u134 u135 u136 u137 u138 u139 u140 u141 u142 u143 u144 u145 u146 u147 u148 u149 u150 u151 u152
    dsimp only
    conv => arg 2; arg 1; whnf
    conv => arg 2; arg 2; arg 1; whnf
    go_wp2_with fail
    refine hc.mono ?_
    rintro e w0 ⟨rfl, j0, rfl⟩
    go_wp2_with fail
    exact unhide HZ _ _ ⟨rfl, rfl, rfl, rfl, rfl, rfl, rfl, rfl, rfl, rfl, rfl, rfl, rfl, rfl, rfl, rfl, rfl, rfl⟩ (by first | exact ⟨_, rfl⟩ | exact ⟨0, rfl⟩ | exact drawn_more _ ⟨_, rfl⟩)
  · simp only [hE, Bool.false_eq_true, if_false] at hZ
    by_cases h0 : C ≤ 0
    · have d0 : decide (C ≤ 0) = true := decide_eq_true h0
      rw [d0] at hZ
      simp only [Bool.true_or] at hZ
      have HZ := hide hZ
      clear hZ hp
      cases ha with
      | none =>
        clear hE
        refine fr_open10 (fun a => Code.wp Try.prog (.seq (stm Try.f10.body 13) (.seq (stm Try.f10.body 14) Z)) Q a w) a hF ?_
        intro u10 u11 u12 u13 u14 u15 u16 u17 u24 u25 u26 u27 u28 u29 u30 u31 u32 u33 u34 u35 u36 u37 u38 u39 u40 u41 u42 u43 u44 u45 u46 u47 u48 u49 u50 u51 u52 u53 u54 u55 u56 u57 u58 u59 u60 u61 u62 u63 u64 u65 u66 u67 u68 u69 u70 u71 u72 u73 u74 u75 u76 u77 u78 u79 u80 u81 u82 u83 u84 u85 u86 u87 u88 u89 u90 u91 u92 u93 u94 u95 u96 u97 u98 u99 u100 u101 u102 u103 u104 u105 u106 u107 u108 u109 u110 u111 u112 u113 u114 u115 u116 u117 u118 u119 u120 u121 u122 u123 u124 u125 u126 u127 u128 u129 u130 u131 u132 u133 u134 u135 u136 u137 u138 u139 u140 u141 u142 u143 u144 u145 u146 u147 u148 u149 u150 u151 u152
        dsimp only
        conv => arg 2; arg 1; whnf
        conv => arg 2; arg 2; arg 1; whnf
        go_wp2_with fail
        refine hc.mono ?_
        rintro e w0 ⟨rfl, j0, rfl⟩
        go_wp2_with fail
        exact unhide HZ _ _ ⟨rfl, rfl, rfl, rfl, rfl, rfl, rfl, rfl, rfl, rfl, rfl, rfl, rfl, rfl, rfl, rfl, rfl, rfl⟩ (by first | exact ⟨_, rfl⟩ | exact ⟨0, rfl⟩ | exact drawn_more _ ⟨_, rfl⟩)
      | some ad =>
        obtain rfl : he = false := by simpa using hE
        clear hE
        refine fr_open10 (fun a => Code.wp Try.prog (.seq (stm Try.f10.body 13) (.seq (stm Try.f10.body 14) Z)) Q a w) a hF ?_
        intro u10 u11 u12 u13 u14 u15 u16 u17 u24 u25 u26 u27 u28 u29 u30 u31 u32 u33 u34 u35 u36 u37 u38 u39 u40 u41 u42 u43 u44 u45 u46 u47 u48 u49 u50 u51 u52 u53 u54 u55 u56 u57 u58 u59 u60 u61 u62 u63 u64 u65 u66 u67 u68 u69 u70 u71 u72 u73 u74 u75 u76 u77 u78 u79 u80 u81 u82 u83 u84 u85 u86 u87 u88 u89 u90 u91 u92 u93 u94 u95 u96 u97 u98 u99 u100 u101 u102 u103 u104 u105 u106 u107 u108 u109 u110 u111 u112 u113 u114 u115 u116 u117 u118 u119 u120 u121 u122 u123 u124 u125 u126 u127 u128 u129 u130 u131 u132 u133 u134 u135 u136 u137 u138 u139 u140 u141 u142 u143 u144 u145 u146 u147 u148 u149 u150 u151 u152
        dsimp only
        conv => arg 2; arg 1; whnf
        conv => arg 2; arg 2; arg 1; whnf
        go_wp2_with fail
        refine hc.mono ?_
        rintro e w0 ⟨rfl, j0, rfl⟩
        go_wp2_with fail
        exact unhide HZ _ _ ⟨rfl, rfl, rfl, rfl, rfl, rfl, rfl, rfl, rfl, rfl, rfl, rfl, rfl, rfl, rfl, rfl, rfl, rfl⟩ (by first | exact ⟨_, rfl⟩ | exact ⟨0, rfl⟩ | exact drawn_more _ ⟨_, rfl⟩)
    · have d0 : decide (C ≤ 0) = false := decide_eq_false h0
      rw [d0] at hZ
      simp only [Bool.false_or] at hZ
      have HZ := hide hZ
      clear hZ
      cases ha with
      | none =>
        clear hE
        cases p
        · skip
          refine fr_open10 (fun a => Code.wp Try.prog (.seq (stm Try.f10.body 13) (.seq (stm Try.f10.body 14) Z)) Q a w) a hF ?_
          intro u10 u11 u12 u13 u14 u15 u16 u17 u24 u25 u26 u27 u28 u29 u30 u31 u32 u33 u34 u35 u36 u37 u38 u39 u40 u41 u42 u43 u44 u45 u46 u47 u48 u49 u50 u51 u52 u53 u54 u55 u56 u57 u58 u59 u60 u61 u62 u63 u64 u65 u66 u67 u68 u69 u70 u71 u72 u73 u74 u75 u76 u77 u78 u79 u80 u81 u82 u83 u84 u85 u86 u87 u88 u89 u90 u91 u92 u93 u94 u95 u96 u97 u98 u99 u100 u101 u102 u103 u104 u105 u106 u107 u108 u109 u110 u111 u112 u113 u114 u115 u116 u117 u118 u119 u120 u121 u122 u123 u124 u125 u126 u127 u128 u129 u130 u131 u132 u133 u134 u135 u136 u137 u138 u139 u140 u141 u142 u143 u144 u145 u146 u147 u148 u149 u150 u151 u152
          dsimp only
          conv => arg 2; arg 1; whnf
          conv => arg 2; arg 2; arg 1; whnf
          go_wp2_with fail
          refine hc.mono ?_
          rintro e w0 ⟨rfl, j0, rfl⟩
          go_wp2_with fail
          refine (hp _).mono ?_
          rintro e w1 ⟨rfl, j1, rfl⟩
          go_wp2_with fail
          exact unhide HZ _ _ ⟨rfl, rfl, rfl, rfl, rfl, rfl, rfl, rfl, rfl, rfl, rfl, rfl, rfl, rfl, rfl, rfl, rfl, rfl⟩ (by first | exact ⟨_, rfl⟩ | exact ⟨0, rfl⟩ | exact drawn_more _ ⟨_, rfl⟩)
        · skip
          refine fr_open10 (fun a => Code.wp Try.prog (.seq (stm Try.f10.body 13) (.seq (stm Try.f10.body 14) Z)) Q a w) a hF ?_
          intro u10 u11 u12 u13 u14 u15 u16 u17 u24 u25 u26 u27 u28 u29 u30 u31 u32 u33 u34 u35 u36 u37 u38 u39 u40 u41 u42 u43 u44 u45 u46 u47 u48 u49 u50 u51 u52 u53 u54 u55 u56 u57 u58 u59 u60 u61 u62 u63 u64 u65 u66 u67 u68 u69 u70 u71 u72 u73 u74 u75 u76 u77 u78 u79 u80 u81 u82 u83 u84 u85 u86 u87 u88 u89 u90 u91 u92 u93 u94 u95 u96 u97 u98 u99 u100 u101 u102 u103 u104 u105 u106 u107 u108 u109 u110 u111 u112 u113 u114 u115 u116 u117 u118 u119 u120 u121 u122 u123 u124 u125 u126 u127 u128 u129 u130 u131 u132 u133 u134 u135 u136 u137 u138 u139 u140 u141 u142 u143 u144 u145 u146 u147 u148 u149 u150 u151 u152
          dsimp only
          conv => arg 2; arg 1; whnf
          conv => arg 2; arg 2; arg 1; whnf
          go_wp2_with fail
          refine hc.mono ?_
          rintro e w0 ⟨rfl, j0, rfl⟩
          go_wp2_with fail
          refine (hp _).mono ?_
          rintro e w1 ⟨rfl, j1, rfl⟩
          go_wp2_with fail
          exact unhide HZ _ _ ⟨rfl, rfl, rfl, rfl, rfl, rfl, rfl, rfl, rfl, rfl, rfl, rfl, rfl, rfl, rfl, rfl, rfl, rfl⟩ (by first | exact ⟨_, rfl⟩ | exact ⟨0, rfl⟩ | exact drawn_more _ ⟨_, rfl⟩)
      | some ad =>
        obtain rfl : he = false := by simpa using hE
        clear hE
        cases p
        · skip
          refine fr_open10 (fun a => Code.wp Try.prog (.seq (stm Try.f10.body 13) (.seq (stm Try.f10.body 14) Z)) Q a w) a hF ?_
          intro u10 u11 u12 u13 u14 u15 u16 u17 u24 u25 u26 u27 u28 u29 u30 u31 u32 u33 u34 u35 u36 u37 u38 u39 u40 u41 u42 u43 u44 u45 u46 u47 u48 u49 u50 u51 u52 u53 u54 u55 u56 u57 u58 u59 u60 u61 u62 u63 u64 u65 u66 u67 u68 u69 u70 u71 u72 u73 u74 u75 u76 u77 u78 u79 u80 u81 u82 u83 u84 u85 u86 u87 u88 u89 u90 u91 u92 u93 u94 u95 u96 u97 u98 u99 u100 u101 u102 u103 u104 u105 u106 u107 u108 u109 u110 u111 u112 u113 u114 u115 u116 u117 u118 u119 u120 u121 u122 u123 u124 u125 u126 u127 u128 u129 u130 u131 u132 u133 u134 u135 u136 u137 u138 u139 u140 u141 u142 u143 u144 u145 u146 u147 u148 u149 u150 u151 u152
          dsimp only
          conv => arg 2; arg 1; whnf
          conv => arg 2; arg 2; arg 1; whnf
          go_wp2_with fail
          refine hc.mono ?_
          rintro e w0 ⟨rfl, j0, rfl⟩
          go_wp2_with fail
          refine (hp _).mono ?_
          rintro e w1 ⟨rfl, j1, rfl⟩
          go_wp2_with fail
          exact unhide HZ _ _ ⟨rfl, rfl, rfl, rfl, rfl, rfl, rfl, rfl, rfl, rfl, rfl, rfl, rfl, rfl, rfl, rfl, rfl, rfl⟩ (by first | exact ⟨_, rfl⟩ | exact ⟨0, rfl⟩ | exact drawn_more _ ⟨_, rfl⟩)
        · skip
          refine fr_open10 (fun a => Code.wp Try.prog (.seq (stm Try.f10.body 13) (.seq (stm Try.f10.body 14) Z)) Q a w) a hF ?_
          intro u10 u11 u12 u13 u14 u15 u16 u17 u24 u25 u26 u27 u28 u29 u30 u31 u32 u33 u34 u35 u36 u37 u38 u39 u40 u41 u42 u43 u44 u45 u46 u47 u48 u49 u50 u51 u52 u53 u54 u55 u56 u57 u58 u59 u60 u61 u62 u63 u64 u65 u66 u67 u68 u69 u70 u71 u72 u73 u74 u75 u76 u77 u78 u79 u80 u81 u82 u83 u84 u85 u86 u87 u88 u89 u90 u91 u92 u93 u94 u95 u96 u97 u98 u99 u100 u101 u102 u103 u104 u105 u106 u107 u108 u109 u110 u111 u112 u113 u114 u115 u116 u117 u118 u119 u120 u121 u122 u123 u124 u125 u126 u127 u128 u129 u130 u131 u132 u133 u134 u135 u136 u137 u138 u139 u140 u141 u142 u143 u144 u145 u146 u147 u148 u149 u150 u151 u152
          dsimp only
          conv => arg 2; arg 1; whnf
          conv => arg 2; arg 2; arg 1; whnf
          go_wp2_with fail
          refine hc.mono ?_
          rintro e w0 ⟨rfl, j0, rfl⟩
          go_wp2_with fail
          refine (hp _).mono ?_
          rintro e w1 ⟨rfl, j1, rfl⟩
          go_wp2_with fail
          exact unhide HZ _ _ ⟨rfl, rfl, rfl, rfl, rfl, rfl, rfl, rfl, rfl, rfl, rfl, rfl, rfl, rfl, rfl, rfl, rfl, rfl⟩ (by first | exact ⟨_, rfl⟩ | exact ⟨0, rfl⟩ | exact drawn_more _ ⟨_, rfl⟩)

set_option maxHeartbeats 8000000 in
set_option maxRecDepth 100000 in
theorem agree15 (s : Sp) (ok po : Bool) (pa ka : Option Addr) (pc kc rb : Nat) (pfx k : List Int) (L U : Option Addr) (pla pha : Option Addr) (plc phc : Nat) (P1 P2 : List Int) (m : Nat) (low up : Option (List Int)) (v22 v23 : Bool) (w : World) (Q : Exit → Act → World → Prop) (a : Act) (s21 : Value)
    (hr : RngAt w rb L U) (hL : BoundAt m w L false low) (hU : BoundAt m w U true up) (hk : BytesAt w ka kc k) (l1 : k.length ≤ 4194304) (l2 : upLen low ≤ 4194304) (l3 : upLen up ≤ 4194304) (h22 : overLow low k = v22) (h23 : underUp up k = v23)
    (hF : Fr10 a (.agg #[.pointer L, .pointer U, .bool false, .int .i64 0]) (.bool ok) (.slice pa pfx.length pc) (.bool po) (.slice s.la s.lo.length s.lc) (.slice s.ha s.hi.length s.hc) (.bool s.le) (.bool s.he) (.slice ka k.length kc) (.pointer (some ⟨rb, 0, Option.none⟩)) (.bool false) (.slice pla P1.length plc) (.slice pha P2.length phc) (s21) (.bool v22) (.bool v23))
    (hQ : ∀ a' w', Fr10 a' (.agg #[.pointer L, .pointer U, .bool false, .int .i64 0]) (.bool ok) (.slice pa pfx.length pc) (.bool po) (.slice s.la s.lo.length s.lc) (.slice s.ha s.hi.length s.hc) (.bool s.le) (.bool s.he) (.slice ka k.length kc) (.pointer (some ⟨rb, 0, Option.none⟩)) (.bool true) (.slice pla P1.length plc) (.slice pha P2.length phc) (s21) (.bool v22) (.bool v23) → Below w.heap.size w w' → Q .ret a' w') :
    Code.wp Try.prog (rst Try.f10.body 15) Q a w := by
  have HQ := hide hQ
  obtain ⟨k0, k1, k2, k3⟩ := hr.cells
  have h1 := above28 L U m low ka kc k w hL hk l1 l2
  rw [h22] at h1
  clear hQ
  refine fr_open10 (fun a => Code.wp Try.prog (rst Try.f10.body 15) Q a w) a hF ?_
  intro u10 u11 u12 u13 u14 u15 u16 u17 u24 u25 u26 u27 u28 u29 u30 u31 u32 u33 u34 u35 u36 u37 u38 u39 u40 u41 u42 u43 u44 u45 u46 u47 u48 u49 u50 u51 u52 u53 u54 u55 u56 u57 u58 u59 u60 u61 u62 u63 u64 u65 u66 u67 u68 u69 u70 u71 u72 u73 u74 u75 u76 u77 u78 u79 u80 u81 u82 u83 u84 u85 u86 u87 u88 u89 u90 u91 u92 u93 u94 u95 u96 u97 u98 u99 u100 u101 u102 u103 u104 u105 u106 u107 u108 u109 u110 u111 u112 u113 u114 u115 u116 u117 u118 u119 u120 u121 u122 u123 u124 u125 u126 u127 u128 u129 u130 u131 u132 u133 u134 u135 u136 u137 u138 u139 u140 u141 u142 u143 u144 u145 u146 u147 u148 u149 u150 u151 u152
  dsimp only
  conv => arg 2; whnf
  go_wp2_with fail
  refine h1.mono ?_
  rintro e w1 ⟨rfl, hb1⟩
  obtain ⟨q0, q1, q2, q3⟩ := (hr.below hb1).cells
  have h2 := under29 L U m up ka kc k w1 (hU.below hb1) (hk.below hb1) l1 l3
  rw [h23] at h2
  clear h1 hL hU hr hk h22 h23
  cases v22
  all_goals
    go_wp2_with fail
    refine h2.mono ?_
    rintro e w2 ⟨rfl, hb2⟩
    clear h2
    cases v23
    all_goals
      go_wp2_with fail
      exact unhide HQ _ _ ⟨rfl, rfl, rfl, rfl, rfl, rfl, rfl, rfl, rfl, rfl, rfl, rfl, rfl, rfl, rfl, rfl, rfl, rfl⟩ (below_step hb1 hb2)

end Go.Proofs.Qxb6002590a
