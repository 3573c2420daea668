import Derived.Test.Qxb6002590aAgreeB
namespace Go.Proofs.Qxb6002590a
open Go.RowKit Go.Own

set_option maxHeartbeats 8000000 in
set_option maxRecDepth 100000 in
theorem agree9 (s : Sp) (ok po : Bool) (pa ka : Option Addr) (pc kc rb : Nat) (pfx k : List Int) (L U : Option Addr) (pla pha : Option Addr) (plc phc : Nat) (P1 P2 : List Int) (m : Nat) (up : Option (List Int)) (w : World) (Q : Exit → Act → World → Prop) (Z : Code) (a : Act) (s21 s22 s23 : Value)
    (hr : RngAt w rb L U) (hU : BoundAt m w U true up) (hup : up.isNone = (!ex2 s && (aft P2).isNone)) (hph : BytesAt w pha phc P2) (l1 : P2.length ≤ 4194304)
    (hF : Fr10 a (.agg #[.pointer L, .pointer U, .bool false, .int .i64 0]) (.bool ok) (.slice pa pfx.length pc) (.bool po) (.slice s.la s.lo.length s.lc) (.slice s.ha s.hi.length s.hc) (.bool s.le) (.bool s.he) (.slice ka k.length kc) (.pointer (some ⟨rb, 0, Option.none⟩)) (.bool false) (.slice pla P1.length plc) (.slice pha P2.length phc) (s21) (s22) (s23))
    (hZ : ∀ a' j, Fr10 a' (.agg #[.pointer L, .pointer U, .bool false, .int .i64 0]) (.bool ok) (.slice pa pfx.length pc) (.bool po) (.slice s.la s.lo.length s.lc) (.slice s.ha s.hi.length s.hc) (.bool s.le) (.bool s.he) (.slice ka k.length kc) (.pointer (some ⟨rb, 0, Option.none⟩)) (.bool false) (.slice pla P1.length plc) (.slice pha P2.length phc) (s21) (s22) (s23) → Code.wp Try.prog Z Q a' (w.drewN j)) :
    Code.wp Try.prog (.seq (stm Try.f10.body 9) (.seq (stm Try.f10.body 10) Z)) Q a w := by
  have HZ := hide hZ
  obtain ⟨k0, k1, k2, k3⟩ := hr.cells
  have hpn := ptr_nil
  have hpn2 := ptr_nnil
  have hnl := nnil22
  have hff : ∀ q, Calls Try.prog 25 #[.slice pha P2.length phc] (w.drewN q) fun e w'' => e = .returned (.bool (aft P2).isNone) ∧ ∃ q', w'' = w.drewN q' := fun q => (allff25 pha phc P2 (w.drewN q) (hph.drewN q) l1).mono fun e w' h => ⟨h.1, q, h.2.symm⟩
  clear hZ hr hph
  unfold ex2 at hup
  obtain ⟨la, lc, lo, ha, hc, hi, le, he, na⟩ := s
  simp only at hup hF HZ
  generalize (aft P2).isNone = f at hup hff
  rcases hU with ⟨rfl, rfl⟩ | ⟨xs, g, ad, c, rfl, rfl, -, h0, h1, -⟩
  · obtain rfl : f = true := by cases f <;> simp_all
    have hE : (!ha.isNone && he) = false := by cases ha <;> cases he <;> simp_all
    clear hup
    cases ha with
    | none =>
      clear hE
      refine fr_open10 (fun a => Code.wp Try.prog (.seq (stm Try.f10.body 9) (.seq (stm Try.f10.body 10) Z)) Q a w) a hF ?_
      intro u10 u11 u12 u13 u14 u15 u16 u17 u24 u25 u26 u27 u28 u29 u30 u31 u32 u33 u34 u35 u36 u37 u38 u39 u40 u41 u42 u43 u44 u45 u46 u47 u48 u49 u50 u51 u52 u53 u54 u55 u56 u57 u58 u59 u60 u61 u62 u63 u64 u65 u66 u67 u68 u69 u70 u71 u72 u73 u74 u75 u76 u77 u78 u79 u80 u81 u82 u83 u84 u85 u86 u87 u88 u89 u90 u91 u92 u93 u94 u95 u96 u97 u98 u99 u100 u101 u102 u103 u104 u105 u106 u107 u108 u109 u110 u111 u112 u113 u114 u115 u116 u117 u118 u119 u120 u121 u122 u123 u124 u125 u126 u127 u128 u129 u130 u131 u132 u133 u134 u135 u136 u137 u138 u139 u140 u141 u142 u143 u144 u145 u146 u147 u148 u149 u150 u151 u152
      dsimp only
      conv => arg 2; arg 1; whnf
      conv => arg 2; arg 2; arg 1; whnf
      go_wp2_with fail
      go_quiet ((go_at_call 25; with_reducible exact hff _))
      go_wp2_with fail
      exact unhide HZ _ _ ⟨rfl, rfl, rfl, rfl, rfl, rfl, rfl, rfl, rfl, rfl, rfl, rfl, rfl, rfl, rfl, rfl, rfl, rfl⟩
    | some ad =>
      obtain rfl : he = false := by simpa using hE
      clear hE
      refine fr_open10 (fun a => Code.wp Try.prog (.seq (stm Try.f10.body 9) (.seq (stm Try.f10.body 10) Z)) Q a w) a hF ?_
      intro u10 u11 u12 u13 u14 u15 u16 u17 u24 u25 u26 u27 u28 u29 u30 u31 u32 u33 u34 u35 u36 u37 u38 u39 u40 u41 u42 u43 u44 u45 u46 u47 u48 u49 u50 u51 u52 u53 u54 u55 u56 u57 u58 u59 u60 u61 u62 u63 u64 u65 u66 u67 u68 u69 u70 u71 u72 u73 u74 u75 u76 u77 u78 u79 u80 u81 u82 u83 u84 u85 u86 u87 u88 u89 u90 u91 u92 u93 u94 u95 u96 u97 u98 u99 u100 u101 u102 u103 u104 u105 u106 u107 u108 u109 u110 u111 u112 u113 u114 u115 u116 u117 u118 u119 u120 u121 u122 u123 u124 u125 u126 u127 u128 u129 u130 u131 u132 u133 u134 u135 u136 u137 u138 u139 u140 u141 u142 u143 u144 u145 u146 u147 u148 u149 u150 u151 u152
      dsimp only
      conv => arg 2; arg 1; whnf
      conv => arg 2; arg 2; arg 1; whnf
      go_wp2_with fail
      go_quiet ((go_at_call 25; with_reducible exact hff _))
      go_wp2_with fail
      exact unhide HZ _ _ ⟨rfl, rfl, rfl, rfl, rfl, rfl, rfl, rfl, rfl, rfl, rfl, rfl, rfl, rfl, rfl, rfl, rfl, rfl⟩
  · cases ha with
    | none =>
      obtain rfl : f = false := by cases f <;> simp_all
      clear hup
      refine fr_open10 (fun a => Code.wp Try.prog (.seq (stm Try.f10.body 9) (.seq (stm Try.f10.body 10) Z)) Q a w) a hF ?_
      intro u10 u11 u12 u13 u14 u15 u16 u17 u24 u25 u26 u27 u28 u29 u30 u31 u32 u33 u34 u35 u36 u37 u38 u39 u40 u41 u42 u43 u44 u45 u46 u47 u48 u49 u50 u51 u52 u53 u54 u55 u56 u57 u58 u59 u60 u61 u62 u63 u64 u65 u66 u67 u68 u69 u70 u71 u72 u73 u74 u75 u76 u77 u78 u79 u80 u81 u82 u83 u84 u85 u86 u87 u88 u89 u90 u91 u92 u93 u94 u95 u96 u97 u98 u99 u100 u101 u102 u103 u104 u105 u106 u107 u108 u109 u110 u111 u112 u113 u114 u115 u116 u117 u118 u119 u120 u121 u122 u123 u124 u125 u126 u127 u128 u129 u130 u131 u132 u133 u134 u135 u136 u137 u138 u139 u140 u141 u142 u143 u144 u145 u146 u147 u148 u149 u150 u151 u152
      dsimp only
      conv => arg 2; arg 1; whnf
      conv => arg 2; arg 2; arg 1; whnf
      go_wp2_with fail
      go_quiet ((go_at_call 25; with_reducible exact hff _))
      go_wp2_with fail
      exact unhide HZ _ _ ⟨rfl, rfl, rfl, rfl, rfl, rfl, rfl, rfl, rfl, rfl, rfl, rfl, rfl, rfl, rfl, rfl, rfl, rfl⟩
    | some ad2 =>
      cases he with
      | true =>
        clear hup
        refine fr_open10 (fun a => Code.wp Try.prog (.seq (stm Try.f10.body 9) (.seq (stm Try.f10.body 10) Z)) Q a w) a hF ?_
        intro u10 u11 u12 u13 u14 u15 u16 u17 u24 u25 u26 u27 u28 u29 u30 u31 u32 u33 u34 u35 u36 u37 u38 u39 u40 u41 u42 u43 u44 u45 u46 u47 u48 u49 u50 u51 u52 u53 u54 u55 u56 u57 u58 u59 u60 u61 u62 u63 u64 u65 u66 u67 u68 u69 u70 u71 u72 u73 u74 u75 u76 u77 u78 u79 u80 u81 u82 u83 u84 u85 u86 u87 u88 u89 u90 u91 u92 u93 u94 u95 u96 u97 u98 u99 u100 u101 u102 u103 u104 u105 u106 u107 u108 u109 u110 u111 u112 u113 u114 u115 u116 u117 u118 u119 u120 u121 u122 u123 u124 u125 u126 u127 u128 u129 u130 u131 u132 u133 u134 u135 u136 u137 u138 u139 u140 u141 u142 u143 u144 u145 u146 u147 u148 u149 u150 u151 u152
        dsimp only
        conv => arg 2; arg 1; whnf
        conv => arg 2; arg 2; arg 1; whnf
        go_wp2_with fail
        go_quiet (fail)
        go_wp2_with fail
        exact unhide HZ _ _ ⟨rfl, rfl, rfl, rfl, rfl, rfl, rfl, rfl, rfl, rfl, rfl, rfl, rfl, rfl, rfl, rfl, rfl, rfl⟩
      | false =>
        obtain rfl : f = false := by cases f <;> simp_all
        clear hup
        refine fr_open10 (fun a => Code.wp Try.prog (.seq (stm Try.f10.body 9) (.seq (stm Try.f10.body 10) Z)) Q a w) a hF ?_
        intro u10 u11 u12 u13 u14 u15 u16 u17 u24 u25 u26 u27 u28 u29 u30 u31 u32 u33 u34 u35 u36 u37 u38 u39 u40 u41 u42 u43 u44 u45 u46 u47 u48 u49 u50 u51 u52 u53 u54 u55 u56 u57 u58 u59 u60 u61 u62 u63 u64 u65 u66 u67 u68 u69 u70 u71 u72 u73 u74 u75 u76 u77 u78 u79 u80 u81 u82 u83 u84 u85 u86 u87 u88 u89 u90 u91 u92 u93 u94 u95 u96 u97 u98 u99 u100 u101 u102 u103 u104 u105 u106 u107 u108 u109 u110 u111 u112 u113 u114 u115 u116 u117 u118 u119 u120 u121 u122 u123 u124 u125 u126 u127 u128 u129 u130 u131 u132 u133 u134 u135 u136 u137 u138 u139 u140 u141 u142 u143 u144 u145 u146 u147 u148 u149 u150 u151 u152
        dsimp only
        conv => arg 2; arg 1; whnf
        conv => arg 2; arg 2; arg 1; whnf
        go_wp2_with fail
        go_quiet ((go_at_call 25; with_reducible exact hff _))
        go_wp2_with fail
        exact unhide HZ _ _ ⟨rfl, rfl, rfl, rfl, rfl, rfl, rfl, rfl, rfl, rfl, rfl, rfl, rfl, rfl, rfl, rfl, rfl, rfl⟩

end Go.Proofs.Qxb6002590a
