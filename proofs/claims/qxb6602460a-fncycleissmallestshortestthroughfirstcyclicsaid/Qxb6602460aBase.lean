/- Own laws over any program: a map's block told by a plain function (Tab), a slice of one-cell elements told by the list of its values (SliceOf). -/
import Derived.WalkKit
import Derived.WalkSpells
import Derived.WalkLawsBesides
import Derived.Maps.OwnSet
import Derived.Maps.Views
import Derived.Deep.OwnRows
import Derived.Deep.Draws
namespace Go.Own
open Go.RowKit Go.Maps

theorem hide {p : Prop} (h : p) : Hid p := h
theorem unhide {p : Prop} (h : Hid p) : p := h

/-! ### Maps, told by a function from keys to values -/
def tokR (v : Value) : Option (DataW Value × List MemPlace) := some (.held v, [])

def heldOf : DataW Value → Option Value
  | .held v => some v
  | _ => Option.none

def tabGet (D : DataW Value) (k : Lit) : Option Value := if Maps.has D k then heldOf (D.atKey k .nil) else Option.none

def Tab (P : Program) (k : TypeId) (w : World) (v : Value) (n : Nat) (F : Lit → Option Value) (sz : Nat) : Prop :=
  (v = .map Option.none ∧ (∀ kl, F kl = Option.none) ∧ sz = 0) ∨
  ∃ b D, v = .map (some b) ∧ w.ownsMap P k tokR b n D ∧ (∀ kl, F kl = tabGet D kl) ∧ sz = Maps.size D

def upd (F : Lit → Option Value) (k : Lit) (v : Value) : Lit → Option Value := fun x => if x.sameKey k then some v else F x

variable {P : Program} {k : TypeId} {w : World} {v : Value} {n : Nat} {F : Lit → Option Value} {sz : Nat}

theorem Tab.nil : Tab P k w (.map Option.none) n (fun _ => Option.none) 0 := .inl ⟨rfl, fun _ => rfl, rfl⟩

theorem Tab.made (w : World) (P : Program) (k : TypeId) : Tab P k (w.alloc (.map #[] 0)) (.map (some w.heap.size)) 0 (fun _ => Option.none) 0 :=
  .inr ⟨_, _, rfl, World.ownsMap_made w P k tokR, fun kl => by simp [tabGet, Maps.has], rfl⟩

theorem Tab.congr {F' : Lit → Option Value} {sz' : Nat} (h : Tab P k w v n F sz) (e : ∀ kl, F kl = F' kl) (es : sz = sz') : Tab P k w v n F' sz' := by
  subst es
  rcases h with ⟨hv, hF, hs⟩ | ⟨b, D, hv, ho, hF, hs⟩
  · exact .inl ⟨hv, fun kl => by rw [← e, hF], hs⟩
  · exact .inr ⟨b, D, hv, ho, fun kl => by rw [← e, hF], hs⟩

theorem Tab.mono {n' : Nat} (h : Tab P k w v n F sz) (hn : n ≤ n') : Tab P k w v n' F sz := by
  rcases h with ⟨hv, hF, hs⟩ | ⟨b, D, hv, ho, hF, hs⟩
  · exact .inl ⟨hv, hF, hs⟩
  · exact .inr ⟨b, D, hv, ho.mono hn, hF, hs⟩

theorem Tab.size_le (h : Tab P k w v n F sz) : sz ≤ n := by
  rcases h with ⟨hv, hF, hs⟩ | ⟨b, D, hv, ho, hF, hs⟩
  · omega
  · rw [hs]; exact ho.size_le

/-- The block that a map's value leads to. -/
def mapBlock : Value → Option Nat
  | .map b => b
  | _ => Option.none

theorem Tab.kept {w' : World} {row : Option Nat} (h : Tab P k w v n F sz) (hg : w.grownBy w' row) (hne : ∀ b, v = .map (some b) → some b ≠ row) : Tab P k w' v n F sz := by
  rcases h with ⟨hv, hF, hs⟩ | ⟨b, D, hv, ho, hF, hs⟩
  · exact .inl ⟨hv, hF, hs⟩
  · exact .inr ⟨b, D, hv, ho.kept hg (hne b hv), hF, hs⟩

theorem Tab.drew (h : Tab P k w v n F sz) : Tab P k w.drew v n F sz := h

theorem Tab.alike {P : Program} {k : TypeId} {w w' : World} {v : Value} {n : Nat} {F : Lit → Option Value} {sz : Nat} (h : Tab P k w v n F sz) (e : w'.Alike w) : Tab P k w' v n F sz := by
  rcases h with ⟨hv, hF, hs⟩ | ⟨b, D, hv, ho, hF, hs⟩
  · exact .inl ⟨hv, hF, hs⟩
  · refine .inr ⟨b, D, hv, ?_, hF, hs⟩
    obtain ⟨es, cl, h1, h2⟩ := ho
    exact ⟨es, cl, by rw [e.1]; exact h1, h2⟩


theorem Tab.drewN (h : Tab P k w v n F sz) (q : Nat) : Tab P k (w.drewN q) v n F sz := h

/-- The table that k stores lay. -/
def tabOf (K : Nat → Lit) (V : Nat → Value) : Nat → Lit → Option Value
  | 0 => fun _ => Option.none
  | j + 1 => upd (tabOf K V j) (K j) (V j)

theorem Tab.look {t e : TypeId} (h : Tab P k w v n F sz) (K : Keyed P k) (ht : P.underlying t = some (.map k e)) {z : Value} (hz : (zeroValue e).run P w = .ok z w) {key : Value} {kl : Lit} (hkey : keyOf P k key = some kl) :
    (Instr.lookup t v key false).run P w = .ok ((F kl).getD z) w := by
  rcases h with ⟨hv, hF, hs⟩ | ⟨b, D, hv, ho, hF, hs⟩
  · subst hv
    rw [hF kl]
    simpa using Maps.look_nil (w := w) false K ht hz hkey
  · subst hv
    rw [hF kl]
    obtain ⟨x, ps, hrun, hx⟩ := ho.look_ok K ht hz (zd := .held z) (zp := []) rfl hkey
    obtain ⟨y, ps', hrun', hy⟩ := ho.lookup K ht hz (zd := .held z) (zp := []) rfl hkey
    rw [hrun']
    simp only [tokR, Option.some.injEq, Prod.mk.injEq] at hy
    unfold tabGet
    cases hh : Maps.has D kl
    · have := atKey_of_not_has hh (.held z)
      rw [this] at hy
      simp at hy
      simp [hy.1]
    · have e1 : D.atKey kl .nil = D.atKey kl (.held z) := by
        obtain ⟨es, rfl⟩ := ho.isMap
        simp only [DataW.atKey, Maps.has] at hh ⊢
        cases hf : es.find? (fun p => p.1.sameKey kl) with
        | some p => rfl
        | none =>
          rw [List.find?_eq_none] at hf
          rw [List.any_eq_true] at hh
          obtain ⟨p, hp, hp'⟩ := hh
          exact absurd hp' (hf p hp)
      rw [e1, ← hy.1]
      simp [heldOf]

theorem Tab.look_ok {t e : TypeId} (h : Tab P k w v n F sz) (K : Keyed P k) (ht : P.underlying t = some (.map k e)) {z : Value} (hz : (zeroValue e).run P w = .ok z w) {key : Value} {kl : Lit} (hkey : keyOf P k key = some kl) :
    (Instr.lookup t v key true).run P w = .ok (.tuple #[(F kl).getD z, .bool (F kl).isSome]) w := by
  have h1 := h.look K ht hz hkey
  rcases h with ⟨hv, hF, hs⟩ | ⟨b, D, hv, ho, hF, hs⟩
  · subst hv
    rw [hF kl]
    simpa using Maps.look_nil (w := w) true K ht hz hkey
  · subst hv
    obtain ⟨x, ps, hrun, hx⟩ := ho.look_ok K ht hz (zd := .held z) (zp := []) rfl hkey
    obtain ⟨y, ps', hrun', hy⟩ := ho.lookup K ht hz (zd := .held z) (zp := []) rfl hkey
    rw [h1] at hrun'
    have exy : y = (F kl).getD z := by cases hrun'; rfl
    have e2 : x = y := by
      simp only [tokR, Option.some.injEq, Prod.mk.injEq] at hx hy
      have := hx.1.trans hy.1.symm
      simpa using this
    rw [hrun, e2, exy]
    have e3 : Maps.has D kl = (F kl).isSome := by
      rw [hF kl]
      unfold tabGet
      cases hh : Maps.has D kl
      · rfl
      · have : ∃ u, D.atKey kl .nil = .held u := by
          obtain ⟨x', ps'', hrun'', hx'⟩ := ho.look_ok K ht hz (zd := .held z) (zp := []) rfl hkey
          have e1 : D.atKey kl .nil = D.atKey kl (.held z) := by
            obtain ⟨es, rfl⟩ := ho.isMap
            simp only [DataW.atKey, Maps.has] at hh ⊢
            cases hf : es.find? (fun p => p.1.sameKey kl) with
            | some p => rfl
            | none =>
              rw [List.find?_eq_none] at hf
              rw [List.any_eq_true] at hh
              obtain ⟨p, hp, hp'⟩ := hh
              exact absurd hp' (hf p hp)
          simp only [tokR, Option.some.injEq, Prod.mk.injEq] at hx'
          exact ⟨x', by rw [e1, ← hx'.1]⟩
        obtain ⟨u, hu⟩ := this
        simp [hu, heldOf]
    rw [e3]

theorem Tab.len {t e : TypeId} (h : Tab P k w v n F sz) (ht : P.underlying t = some (.map k e)) (ty : TypeId) : (Builtin.len_ #[t] ty #[v]).run P w = .ok (.int .i64 sz) w := by
  rcases h with ⟨hv, hF, hs⟩ | ⟨b, D, hv, ho, hF, hs⟩
  · subst hv; subst hs
    exact Maps.len_nil ht ty
  · subst hv; subst hs
    exact ho.len ht ty

theorem Tab.store {t e : TypeId} {b : Nat} (h : Tab P k w (.map (some b)) n F sz) (K : Keyed P k) (ht : P.underlying t = some (.map k e)) (hn : n < maxLen) {key val : Value} {kl : Lit} (hkey : keyOf P k key = some kl) :
    ∃ w', (Instr.mapUpdate t (.map (some b)) key val).run P w = .ok () w' ∧ Tab P k w' (.map (some b)) (n + 1) (upd F kl val) (if (F kl).isSome then sz else sz + 1) ∧ w.grownBy w' (some b) ∧ w'.heap.size = w.heap.size := by
  rcases h with ⟨hv, hF, hs⟩ | ⟨b', D, hv, ho, hF, hs⟩
  · cases hv
  · cases hv
    obtain ⟨w', hrun, ho', ht'⟩ := ho.store K ht hn hkey (val := val) (d := .held val) (ps := []) rfl
    have hkl := K.key hkey
    refine ⟨w', hrun, .inr ⟨b, _, rfl, ho', fun x => ?_, ?_⟩, ht'.grown, ?_⟩
    · unfold upd tabGet
      by_cases hx : x = kl
      · subst hx
        rw [WideAt.sameKey_self hkl, has_put_same ho.isMap hkl, atKey_put_same ho.isMap hkl]
        rfl
      · have hs0 : x.sameKey kl = false := by
          cases hq : x.sameKey kl
          · rfl
          · exact absurd (WideAt.sameKey_eq hq) hx
        rw [hs0, has_put_other hx, atKey_put_other hx, hF x]
        rfl
    · rw [size_put (ho.tidy K), hs]
      have e3 : Maps.has D kl = (F kl).isSome := by
        rw [hF kl]
        unfold tabGet
        cases hh : Maps.has D kl
        · rfl
        · obtain ⟨es, clock, hb, Ft, _, rfl⟩ := ho
          have : ∃ u, (DataW.map ((es.toList.map (WideElems.rg P k tokR)).foldr DataW.insert [])).atKey kl .nil = .held u := by
            simp only [DataW.atKey, Maps.has] at hh ⊢
            cases hf : ((es.toList.map (WideElems.rg P k tokR)).foldr DataW.insert []).find? (fun p => p.1.sameKey kl) with
            | some p =>
              have hm := List.mem_of_find?_eq_some hf
              have hm2 := (WideShapes.sorted_perm _).mem_iff.1 hm
              obtain ⟨x, hx, rfl⟩ := List.mem_map.1 hm2
              obtain ⟨y, hy⟩ := Ft.reads x hx
              rw [WideElems.rg_of hy]
              obtain ⟨z, hz, hz2⟩ := WideElems.rd_val hy
              simp only [tokR, Option.some.injEq] at hz
              subst hz
              exact ⟨x.val, hz2⟩
            | none =>
              rw [List.find?_eq_none] at hf
              rw [List.any_eq_true] at hh
              obtain ⟨p, hp, hp'⟩ := hh
              exact absurd hp' (hf p hp)
          obtain ⟨u, hu⟩ := this
          simp [hu, heldOf]
      rw [e3]
    · obtain ⟨es, clock, es', clock', hb, rfl⟩ := ht'
      simp [ChangeMaps.setBlock]

/-! ### Slices of one-cell elements, told by a function of the index -/
structure SliceAt (w : World) (a : Option Addr) (n c : Nat) (f : Nat → Value) : Prop where
  cap : n ≤ c
  nil : a = Option.none → c = 0
  cells : 0 < n → ∃ b off, a = some ⟨b, off, Option.none⟩ ∧ ∀ i, i < n → w.cell? ⟨b, off + i, Option.none⟩ = some (f i)

/-- What may have turned is a map's block alone. -/
def OnlyMap (w : World) (row : Option Nat) : Prop := ∀ m, row = some m → ∃ es cl, w.heap[m]? = some (.map es cl)

theorem OnlyMap.none (w : World) : OnlyMap w Option.none := fun _ h => by cases h

theorem cell_block {w : World} {b o : Nat} {v : Value} (h : w.cell? ⟨b, o, Option.none⟩ = some v) : ∃ cs t fr, w.heap[b]? = some (.cells cs t fr) := by
  unfold World.cell? at h
  split at h <;> first | cases h | skip
  all_goals first | exact ⟨_, _, _, by assumption⟩ | simp_all

theorem cell_new (w : World) (cs : Array Value) (t i : Nat) {v : Value} (h : cs[i]? = some v) : (w.alloc (.cells cs t)).cell? ⟨w.heap.size, i, Option.none⟩ = some v := by
  have e := (MapKept.heap_alloc w (.cells cs t)).1
  simp only [World.cell?, e]
  exact h

theorem cell_lt {w : World} {b o : Nat} {v : Value} (h : w.cell? ⟨b, o, Option.none⟩ = some v) : b < w.heap.size := by
  obtain ⟨cs, t, fr, hb⟩ := cell_block h
  exact (Array.getElem?_eq_some_iff.1 hb).1

theorem cell_kept {w w' : World} {row : Option Nat} (hg : w.grownBy w' row) (hm : OnlyMap w row) {b o : Nat} {v : Value} (h : w.cell? ⟨b, o, Option.none⟩ = some v) : w'.cell? ⟨b, o, Option.none⟩ = some v := by
  obtain ⟨cs, t, fr, hb⟩ := cell_block h
  have hlt := (Array.getElem?_eq_some_iff.1 hb).1
  have hne : some b ≠ row := by
    intro e
    obtain ⟨es, cl, hb'⟩ := hm b e.symm
    rw [hb] at hb'
    cases hb'
  rw [← h]
  exact World.cell?_of_block (w := w) (hg.block b hlt hne)

theorem cell_below {w w' : World} (hg : Below w.heap.size w w') {b o : Nat} {v : Value} (h : w.cell? ⟨b, o, Option.none⟩ = some v) : w'.cell? ⟨b, o, Option.none⟩ = some v := by
  rw [hg.cell (p := ⟨b, o, Option.none⟩) (cell_lt h), h]

variable {a : Option Addr} {c : Nat} {f g : Nat → Value} {w' : World}

theorem SliceAt.kept {row : Option Nat} (h : SliceAt w a n c f) (hg : w.grownBy w' row) (hm : OnlyMap w row) : SliceAt w' a n c f := by
  refine ⟨h.cap, h.nil, fun hn => ?_⟩
  obtain ⟨b, off, ha, hc⟩ := h.cells hn
  exact ⟨b, off, ha, fun i hi => cell_kept hg hm (hc i hi)⟩

theorem SliceAt.below (h : SliceAt w a n c f) (hg : Below w.heap.size w w') : SliceAt w' a n c f := by
  refine ⟨h.cap, h.nil, fun hn => ?_⟩
  obtain ⟨b, off, ha, hc⟩ := h.cells hn
  exact ⟨b, off, ha, fun i hi => cell_below hg (hc i hi)⟩

theorem SliceAt.of_row {b : Nat} {t : TypeId} (h : w.rowIs b t n f) : SliceAt w (some ⟨b, 0, Option.none⟩) n n f :=
  ⟨Nat.le_refl _, fun e => (by cases e), fun _ => ⟨b, 0, rfl, fun i hi => by rw [Nat.zero_add, h.cell hi]⟩⟩

theorem SliceAt.of_nil (w : World) (f : Nat → Value) : SliceAt w Option.none 0 0 f := ⟨Nat.le_refl _, fun _ => rfl, fun h => absurd h (Nat.lt_irrefl _)⟩

theorem SliceAt.congr (h : SliceAt w a n c f) (e : ∀ i, i < n → f i = g i) : SliceAt w a n c g := by
  refine ⟨h.cap, h.nil, fun hn => ?_⟩
  obtain ⟨b, off, ha, hc⟩ := h.cells hn
  exact ⟨b, off, ha, fun i hi => by rw [hc i hi, e i hi]⟩

theorem SliceAt.setOther (h : SliceAt w a n c f) {p : Addr} (hp : ∀ b off, a = some ⟨b, off, Option.none⟩ → b ≠ p.block) (u : Value) : SliceAt (w.setCell p u) a n c f := by
  refine ⟨h.cap, h.nil, fun hn => ?_⟩
  obtain ⟨b, off, ha, hc⟩ := h.cells hn
  refine ⟨b, off, ha, fun i hi => ?_⟩
  rw [← hc i hi]
  exact World.cell?_of_block (w := w) (Below.heap_setCell _ _ _ _ (hp b off ha))

theorem SliceAt.alike (h : SliceAt w a n c f) (e : w'.Alike w) : SliceAt w' a n c f := by
  refine ⟨h.cap, h.nil, fun hn => ?_⟩
  obtain ⟨b, off, ha, hc⟩ := h.cells hn
  exact ⟨b, off, ha, fun i hi => (e.cell _).trans (hc i hi)⟩

/-- A shorter cut of the same slice from its head. -/
theorem SliceAt.cut (h : SliceAt w a n c f) {m : Nat} (hm : m ≤ n) : SliceAt w a m c f := by
  refine ⟨Nat.le_trans hm h.cap, h.nil, fun hn => ?_⟩
  obtain ⟨b, off, ha, hc⟩ := h.cells (by omega)
  exact ⟨b, off, ha, fun i hi => hc i (by omega)⟩

theorem fill_step (i k : Nat) (f : Nat → Value) (z : Value) : (if i = k then f k else if i < k then f i else z) = if i < k + 1 then f i else z := by
  by_cases h : i = k
  · subst h; simp
  · rw [if_neg h]
    by_cases h2 : i < k
    · rw [if_pos h2, if_pos (by omega)]
    · rw [if_neg h2, if_neg (by omega)]

end Go.Own
