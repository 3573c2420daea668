import Derived.Test.Qxb6602460aVisit1
namespace Go.Proofs.Qxb6602460a
open Go.RowKit Go.Maps Go.Own

/-- The graph, as the memory holds it. -/
def Gr (w : World) (oa : Option Addr) (n oc : Nat) (A : Nat → Option Addr) (C : Nat → Nat) (out : Nat → List Nat) : Prop :=
  RowsAt w oa n oc A (fun i => (out i).length) C (fun i j => (((out i).getD j 0 : Nat) : Int))

def Ed (out : Nat → List Nat) : Nat → Nat → Prop := fun x y => y ∈ out x

theorem mem_getD {l : List Nat} {k : Nat} (h : k < l.length) : l.getD k 0 ∈ l := by
  rw [List.getD_eq_getElem?_getD, List.getElem?_eq_getElem h]; exact List.getElem_mem h

theorem take_getD {l : List Nat} {k : Nat} (h : k < l.length) : l.take (k + 1) = l.take k ++ [l.getD k 0] := by
  rw [List.getD_eq_getElem?_getD, List.getElem?_eq_getElem h]
  simp

/-- Where the search of a node's successors stands. -/
def VLoop (W : World) (H n v : Nat) (na oa : Option Addr) (nc oc : Nat) (out : Nat → List Nat) (G : List Nat) (s : TS) (F : Value) (m k : Nat) (wr : World) : Prop :=
  ∃ c, TLoop (Ed out) n G v s ((out v).take k) c ∧ VS wr H n F na oa nc oc c ∧ Below H W wr ∧ Fit c n ∧ wc c n ≤ m

/-- What a visit's call leaves. -/
def VPost (W : World) (H n v : Nat) (na oa : Option Addr) (nc oc : Nat) (out : Nat → List Nat) (G : List Nat) (s : TS) (F : Value) (e : Ending) (w' : World) : Prop :=
  ∃ c, e = .returned (.tuple #[]) ∧ TPost (Ed out) n G v s c ∧ VS w' H n F na oa nc oc c ∧ Below H W w' ∧ Fit c n

theorem Fit.post {s c : TS} {n : Nat} {v : Nat} {E : Nat → Nat → Prop} {G : List Nat} (h : TPost E n G v s c) : wc c n ≤ wc s n :=
  wc_le fun x hx => by rw [(h.ext.old x hx).1]; exact hx

structure Fr41b (a : Act) (s0 s1 s2 s3 s4 s5 s6 s7 s8 s11 s36 s37 s38 : Value) : Prop where
  size : a.tmps.size = 124
  defers : a.defers = []
  e0 : a.tmps.getD 0 undef = s0
  e1 : a.tmps.getD 1 undef = s1
  e2 : a.tmps.getD 2 undef = s2
  e3 : a.tmps.getD 3 undef = s3
  e4 : a.tmps.getD 4 undef = s4
  e5 : a.tmps.getD 5 undef = s5
  e6 : a.tmps.getD 6 undef = s6
  e7 : a.tmps.getD 7 undef = s7
  e8 : a.tmps.getD 8 undef = s8
  e11 : a.tmps.getD 11 undef = s11
  e36 : a.tmps.getD 36 undef = s36
  e37 : a.tmps.getD 37 undef = s37
  e38 : a.tmps.getD 38 undef = s38

set_option maxRecDepth 100000 in
theorem range_all41b (f : Nat → Value) : (List.range 124).map f = [f 0, f 1, f 2, f 3, f 4, f 5, f 6, f 7, f 8, f 9, f 10, f 11, f 12, f 13, f 14, f 15, f 16, f 17, f 18, f 19, f 20, f 21, f 22, f 23, f 24, f 25, f 26, f 27, f 28, f 29, f 30, f 31, f 32, f 33, f 34, f 35, f 36, f 37, f 38, f 39, f 40, f 41, f 42, f 43, f 44, f 45, f 46, f 47, f 48, f 49, f 50, f 51, f 52, f 53, f 54, f 55, f 56, f 57, f 58, f 59, f 60, f 61, f 62, f 63, f 64, f 65, f 66, f 67, f 68, f 69, f 70, f 71, f 72, f 73, f 74, f 75, f 76, f 77, f 78, f 79, f 80, f 81, f 82, f 83, f 84, f 85, f 86, f 87, f 88, f 89, f 90, f 91, f 92, f 93, f 94, f 95, f 96, f 97, f 98, f 99, f 100, f 101, f 102, f 103, f 104, f 105, f 106, f 107, f 108, f 109, f 110, f 111, f 112, f 113, f 114, f 115, f 116, f 117, f 118, f 119, f 120, f 121, f 122, f 123] := rfl

set_option maxRecDepth 100000 in
set_option maxHeartbeats 4000000 in
theorem fr_open41b {s0 s1 s2 s3 s4 s5 s6 s7 s8 s11 s36 s37 s38 : Value} (P : Act → Prop) (a : Act) (h : Fr41b a s0 s1 s2 s3 s4 s5 s6 s7 s8 s11 s36 s37 s38) (H : ∀ u9 u10 u12 u13 u14 u15 u16 u17 u18 u19 u20 u21 u22 u23 u24 u25 u26 u27 u28 u29 u30 u31 u32 u33 u34 u35 u39 u40 u41 u42 u43 u44 u45 u46 u47 u48 u49 u50 u51 u52 u53 u54 u55 u56 u57 u58 u59 u60 u61 u62 u63 u64 u65 u66 u67 u68 u69 u70 u71 u72 u73 u74 u75 u76 u77 u78 u79 u80 u81 u82 u83 u84 u85 u86 u87 u88 u89 u90 u91 u92 u93 u94 u95 u96 u97 u98 u99 u100 u101 u102 u103 u104 u105 u106 u107 u108 u109 u110 u111 u112 u113 u114 u115 u116 u117 u118 u119 u120 u121 u122 u123 : Value, P ⟨#[s0, s1, s2, s3, s4, s5, s6, s7, s8, u9, u10, s11, u12, u13, u14, u15, u16, u17, u18, u19, u20, u21, u22, u23, u24, u25, u26, u27, u28, u29, u30, u31, u32, u33, u34, u35, s36, s37, s38, u39, u40, u41, u42, u43, u44, u45, u46, u47, u48, u49, u50, u51, u52, u53, u54, u55, u56, u57, u58, u59, u60, u61, u62, u63, u64, u65, u66, u67, u68, u69, u70, u71, u72, u73, u74, u75, u76, u77, u78, u79, u80, u81, u82, u83, u84, u85, u86, u87, u88, u89, u90, u91, u92, u93, u94, u95, u96, u97, u98, u99, u100, u101, u102, u103, u104, u105, u106, u107, u108, u109, u110, u111, u112, u113, u114, u115, u116, u117, u118, u119, u120, u121, u122, u123], []⟩) : P a := by
  obtain ⟨⟨l⟩, d⟩ := a
  have hs : l.length = 124 := h.size
  have hd : d = [] := h.defers
  subst hd
  have e0 : l.getD 0 undef = s0 := by simpa using h.e0
  have e1 : l.getD 1 undef = s1 := by simpa using h.e1
  have e2 : l.getD 2 undef = s2 := by simpa using h.e2
  have e3 : l.getD 3 undef = s3 := by simpa using h.e3
  have e4 : l.getD 4 undef = s4 := by simpa using h.e4
  have e5 : l.getD 5 undef = s5 := by simpa using h.e5
  have e6 : l.getD 6 undef = s6 := by simpa using h.e6
  have e7 : l.getD 7 undef = s7 := by simpa using h.e7
  have e8 : l.getD 8 undef = s8 := by simpa using h.e8
  have e11 : l.getD 11 undef = s11 := by simpa using h.e11
  have e36 : l.getD 36 undef = s36 := by simpa using h.e36
  have e37 : l.getD 37 undef = s37 := by simpa using h.e37
  have e38 : l.getD 38 undef = s38 := by simpa using h.e38
  subst e0 e1 e2 e3 e4 e5 e6 e7 e8 e11 e36 e37 e38
  have e := (list_all l _ hs).trans (range_all41b _)
  have := H (l.getD 9 undef) (l.getD 10 undef) (l.getD 12 undef) (l.getD 13 undef) (l.getD 14 undef) (l.getD 15 undef) (l.getD 16 undef) (l.getD 17 undef) (l.getD 18 undef) (l.getD 19 undef) (l.getD 20 undef) (l.getD 21 undef) (l.getD 22 undef) (l.getD 23 undef) (l.getD 24 undef) (l.getD 25 undef) (l.getD 26 undef) (l.getD 27 undef) (l.getD 28 undef) (l.getD 29 undef) (l.getD 30 undef) (l.getD 31 undef) (l.getD 32 undef) (l.getD 33 undef) (l.getD 34 undef) (l.getD 35 undef) (l.getD 39 undef) (l.getD 40 undef) (l.getD 41 undef) (l.getD 42 undef) (l.getD 43 undef) (l.getD 44 undef) (l.getD 45 undef) (l.getD 46 undef) (l.getD 47 undef) (l.getD 48 undef) (l.getD 49 undef) (l.getD 50 undef) (l.getD 51 undef) (l.getD 52 undef) (l.getD 53 undef) (l.getD 54 undef) (l.getD 55 undef) (l.getD 56 undef) (l.getD 57 undef) (l.getD 58 undef) (l.getD 59 undef) (l.getD 60 undef) (l.getD 61 undef) (l.getD 62 undef) (l.getD 63 undef) (l.getD 64 undef) (l.getD 65 undef) (l.getD 66 undef) (l.getD 67 undef) (l.getD 68 undef) (l.getD 69 undef) (l.getD 70 undef) (l.getD 71 undef) (l.getD 72 undef) (l.getD 73 undef) (l.getD 74 undef) (l.getD 75 undef) (l.getD 76 undef) (l.getD 77 undef) (l.getD 78 undef) (l.getD 79 undef) (l.getD 80 undef) (l.getD 81 undef) (l.getD 82 undef) (l.getD 83 undef) (l.getD 84 undef) (l.getD 85 undef) (l.getD 86 undef) (l.getD 87 undef) (l.getD 88 undef) (l.getD 89 undef) (l.getD 90 undef) (l.getD 91 undef) (l.getD 92 undef) (l.getD 93 undef) (l.getD 94 undef) (l.getD 95 undef) (l.getD 96 undef) (l.getD 97 undef) (l.getD 98 undef) (l.getD 99 undef) (l.getD 100 undef) (l.getD 101 undef) (l.getD 102 undef) (l.getD 103 undef) (l.getD 104 undef) (l.getD 105 undef) (l.getD 106 undef) (l.getD 107 undef) (l.getD 108 undef) (l.getD 109 undef) (l.getD 110 undef) (l.getD 111 undef) (l.getD 112 undef) (l.getD 113 undef) (l.getD 114 undef) (l.getD 115 undef) (l.getD 116 undef) (l.getD 117 undef) (l.getD 118 undef) (l.getD 119 undef) (l.getD 120 undef) (l.getD 121 undef) (l.getD 122 undef) (l.getD 123 undef)
  exact (congrArg (fun x => P ⟨⟨x⟩, []⟩) e).mpr this

/-- The pieces of the loop over the successors. -/
def condT : Code → Code
  | .cond _ a _ => a
  | c => c
def condF : Code → Code
  | .cond _ _ b => b
  | c => c
def lpOf (c : Code) : Code := innerC (innerC (tailC c))
def lpIn (c : Code) : Code := innerC (tailC (innerC (headC (tailC (tailC (lpOf c))))))
def lowA (c : Code) : Code := tailC (condT (tailC (lpIn c)))
def lowB (c : Code) : Code := condT (tailC (condF (tailC (lpIn c))))

end Go.Proofs.Qxb6602460a
