import Derived.Test.Qxb6603859aSa
import Derived.Maps.OwnSet
import Derived.Maps.RangeWalk
import Derived.Sort.KeysCollected
import Derived.Sort.OwnSorted
import Derived.Deep.AppendLies
namespace Go.Proofs.Qxb6603859a
open Go.RowKit Go.Deep Go.Maps
set_option linter.unusedVariables false

/-- Every value reads as a token of itself. -/
def tokR (v : Value) : Option (DataW Value × List MemPlace) := some (.held v, [])
theorem law9 : Keyed Try.prog 9 := string_keyed Try.underlying9

abbrev nilS : Value := .slice none 0 0

/-- The map of groups: block bm is a map that has just the keys g whose list F g is not empty; at each stands a slice V g (nil where there is none) whose row, in a block of its own from lo on, holds the strings F g. -/
structure Grp (wr : World) (lo bm m : Nat) (D : DataW Value) (F : List UInt8 → List (List UInt8)) (V : List UInt8 → Value) : Prop where
  own : wr.ownsMap Try.prog 9 tokR bm m D
  atk : ∀ g, D.atKey (.string g) (.held nilS) = .held (V g)
  hask : ∀ g, Maps.has D (.string g) = decide (F g ≠ [])
  row : ∀ g, wr.ownsRow lo 9 1 (V g) (F g).length ((F g).map encStr)
  nil : ∀ g, F g = [] → V g = nilS
  apart : ∀ g g' q, (V g).ownBlock = some q → (V g').ownBlock = some q → g = g'
  low : bm < lo

theorem Grp.start (w : World) (lo : Nat) (h : w.heap.size < lo) : Grp (w.alloc (.map #[] 0)) lo w.heap.size 0 (.map []) (fun _ => []) (fun _ => nilS) :=
  ⟨World.ownsMap_made w Try.prog 9 tokR, fun g => rfl, fun g => rfl, fun g => World.ownsRow_nil _ _ _ _, fun g _ => rfl, fun g g' q h1 h2 => by simp [Value.ownBlock] at h1, h⟩

/-- Other blocks turn: new ones, or one that is neither the map nor one of the rows. -/
theorem Grp.kept {wr w' : World} {lo bm m : Nat} {D : DataW Value} {F : List UInt8 → List (List UInt8)} {V : List UInt8 → Value} {row : Option Nat} (h : Grp wr lo bm m D F V) (hg : wr.grownBy w' row) (hr : ∀ q, row = some q → q < lo ∧ q ≠ bm) : Grp w' lo bm m D F V := by
  refine ⟨h.own.kept hg (fun e => ?_), h.atk, h.hask, fun g => (h.row g).kept hg ?_, h.nil, h.apart, h.low⟩
  · exact (hr bm e.symm).2 rfl
  · cases e : (V g).ownBlock with
    | none => exact .inl rfl
    | some q =>
      refine .inr (fun e2 => ?_)
      have h1 := (hr q e2.symm).1
      have h2 := ((h.row g).lt q e).1
      omega

theorem Grp.alloc {wr : World} {lo bm m : Nat} {D : DataW Value} {F : List UInt8 → List (List UInt8)} {V : List UInt8 → Value} (h : Grp wr lo bm m D F V) (o : Obj) : Grp (wr.alloc o) lo bm m D F V :=
  h.kept (World.grownBy_alloc wr o none) (fun q e => by cases e)

theorem Grp.mono {wr : World} {lo bm m m' : Nat} {D : DataW Value} {F : List UInt8 → List (List UInt8)} {V : List UInt8 → Value} (h : Grp wr lo bm m D F V) (hm : m ≤ m') : Grp wr lo bm m' D F V :=
  ⟨h.own.mono hm, h.atk, h.hask, h.row, h.nil, h.apart, h.low⟩

theorem Grp.congr {wr : World} {lo bm m : Nat} {D : DataW Value} {F F' : List UInt8 → List (List UInt8)} {V : List UInt8 → Value} (h : Grp wr lo bm m D F V) (e : ∀ g, F g = F' g) : Grp wr lo bm m D F' V := by
  obtain rfl : F = F' := funext e
  exact h

/-- One more string in group g: behind the append (which may have moved the row) and the store into the map. -/
theorem Grp.add {wr w1 w2 : World} {lo bm m : Nat} {D : DataW Value} {F : List UInt8 → List (List UInt8)} {V : List UInt8 → Value} (h : Grp wr lo bm m D F V) (g x : List UInt8) {q cap : Nat}
    (hown : w1.ownsRow lo 9 1 (.slice (some ⟨q, 0, none⟩) ((F g).length + 1) cap) ((F g).length + 1) ((F g).map encStr ++ [encStr x])) (hg1 : wr.grownBy w1 (V g).ownBlock) (hq : (V g).ownBlock = some q ∨ wr.heap.size ≤ q)
    (hmap : w2.ownsMap Try.prog 9 tokR bm (m + 1) (D.put (.string g) (.held (.slice (some ⟨q, 0, none⟩) ((F g).length + 1) cap)))) (hg2 : w1.grownBy w2 (some bm)) :
    Grp w2 lo bm (m + 1) (D.put (.string g) (.held (.slice (some ⟨q, 0, none⟩) ((F g).length + 1) cap))) (fun g' => if g' = g then F g ++ [x] else F g') (fun g' => if g' = g then .slice (some ⟨q, 0, none⟩) ((F g).length + 1) cap else V g') := by
  have hne : ∀ {g' : List UInt8}, g' ≠ g → Lit.string g' ≠ Lit.string g := fun hh e => hh (by simpa using e)
  have hD : IsMap D := h.own.isMap
  have hk : WideAt.IsKeyLit (.string g) := trivial
  refine ⟨hmap, fun g' => ?_, fun g' => ?_, fun g' => ?_, fun g' hn => ?_, fun g1 g2 p h1 h2 => ?_, h.low⟩
  · show _ = DataW.held (if g' = g then _ else _)
    by_cases e : g' = g
    · subst e; rw [if_pos rfl, atKey_put_same hD hk]
    · rw [if_neg e, atKey_put_other (hne e)]; exact h.atk g'
  · show _ = decide ((if g' = g then F g ++ [x] else F g') ≠ [])
    by_cases e : g' = g
    · subst e; rw [if_pos rfl, has_put_same hD hk]; simp
    · rw [if_neg e, has_put_other (hne e)]; exact h.hask g'
  · show w2.ownsRow lo 9 1 (if g' = g then _ else _) (if g' = g then F g ++ [x] else F g').length ((if g' = g then F g ++ [x] else F g').map encStr)
    by_cases e : g' = g
    · subst e
      rw [if_pos rfl, if_pos rfl]
      have : w2.ownsRow lo 9 1 (.slice (some ⟨q, 0, none⟩) ((F g').length + 1) cap) ((F g').length + 1) ((F g').map encStr ++ [encStr x]) := hown.kept hg2 (.inr (fun e2 => by
        have h2 := (hown.lt q rfl).1
        have : q = bm := by simpa [Value.ownBlock] using e2
        have := h.low
        omega))
      simpa using this
    · rw [if_neg e, if_neg e]
      refine ((h.row g').kept hg1 ?_).kept hg2 ?_
      · cases e1 : (V g').ownBlock with
        | none => exact .inl rfl
        | some p => exact .inr (fun e2 => e (h.apart g' g p e1 e2.symm))
      · cases e1 : (V g').ownBlock with
        | none => exact .inl rfl
        | some p =>
          refine .inr (fun e2 => ?_)
          have h2 := ((h.row g').lt p e1).1
          have : p = bm := by simpa using e2
          have := h.low
          omega
  · show (if g' = g then _ else _) = _
    have hn' : (if g' = g then F g ++ [x] else F g') = [] := hn
    by_cases e : g' = g
    · rw [if_pos e] at hn'; simp at hn'
    · rw [if_neg e] at hn' ⊢; exact h.nil g' hn'
  · have h1' : (if g1 = g then Value.slice (some ⟨q, 0, none⟩) ((F g).length + 1) cap else V g1).ownBlock = some p := h1
    have h2' : (if g2 = g then Value.slice (some ⟨q, 0, none⟩) ((F g).length + 1) cap else V g2).ownBlock = some p := h2
    by_cases e1 : g1 = g
    · by_cases e2 : g2 = g
      · rw [e1, e2]
      · rw [if_pos e1] at h1'
        rw [if_neg e2] at h2'
        have hp : q = p := by simpa [Value.ownBlock] using h1'
        subst hp
        rcases hq with hq | hq
        · exact absurd (h.apart g2 g q h2' hq) e2
        · have := ((h.row g2).lt q h2').2; omega
    · by_cases e2 : g2 = g
      · rw [if_neg e1] at h1'
        rw [if_pos e2] at h2'
        have hp : q = p := by simpa [Value.ownBlock] using h2'
        subst hp
        rcases hq with hq | hq
        · exact absurd (h.apart g1 g q h1' hq) e1
        · have := ((h.row g1).lt q h1').2; omega
      · rw [if_neg e1] at h1'
        rw [if_neg e2] at h2'
        exact h.apart g1 g2 p h1' h2'

/-- One group's row is written anew, in place: as many strings. -/
theorem Grp.sort {wr w' : World} {lo bm m : Nat} {D : DataW Value} {F : List UInt8 → List (List UInt8)} {V : List UInt8 → Value} (h : Grp wr lo bm m D F V) (g : List UInt8) {q : Nat} (hq : (V g).ownBlock = some q) {ts : List (List UInt8)} (hl : ts.length = (F g).length)
    (hg : wr.grownBy w' (some q)) (hrow : w'.ownsRow lo 9 1 (V g) (F g).length (ts.map encStr)) : Grp w' lo bm m D (fun g' => if g' = g then ts else F g') V := by
  have hlo := ((h.row g).lt q hq).1
  have hlow := h.low
  have hemp : ts = [] ↔ F g = [] := by rw [← List.length_eq_zero_iff, ← List.length_eq_zero_iff, hl]
  refine ⟨h.own.kept hg (fun e => by cases e; omega), h.atk, fun g' => ?_, fun g' => ?_, fun g' hn => ?_, h.apart, h.low⟩
  · show _ = decide ((if g' = g then ts else F g') ≠ [])
    by_cases e : g' = g
    · subst e; rw [if_pos rfl, h.hask g']; simp [hemp]
    · rw [if_neg e]; exact h.hask g'
  · show w'.ownsRow lo 9 1 (V g') (if g' = g then ts else F g').length ((if g' = g then ts else F g').map encStr)
    by_cases e : g' = g
    · subst e; rw [if_pos rfl, hl]; exact hrow
    · rw [if_neg e]
      refine (h.row g').kept hg ?_
      cases e1 : (V g').ownBlock with
      | none => exact .inl rfl
      | some p => exact .inr (fun e2 => e (h.apart g' g p e1 (by rw [hq]; exact e2.symm)))
  · have hn' : (if g' = g then ts else F g') = [] := hn
    by_cases e : g' = g
    · subst e; rw [if_pos rfl] at hn'; exact h.nil g' (hemp.1 hn')
    · rw [if_neg e] at hn'; exact h.nil g' hn'

/-- A step of an iterator. -/
theorem Grp.iter {wr w' : World} {lo bm m b r n cnt : Nat} {D D1 : DataW Value} {left : Lit → Bool} {F : List UInt8 → List (List UInt8)} {V : List UInt8 → Value} (h : Grp wr lo bm m D F V) (hr : wr.ranges Try.prog 9 tokR b r n D1 left cnt) (hne : r ≠ bm) (hg : wr.grownBy w' (some r)) : Grp w' lo bm m D F V := by
  refine ⟨h.own.kept hg (fun e => hne (by simpa using e.symm)), h.atk, h.hask, fun g => (h.row g).kept hg (.inr (row_ne_iter (h.row g) hr).symm), h.nil, h.apart, h.low⟩

theorem ranges_drew {w : World} {b r n : Nat} {D : DataW Value} {left : Lit → Bool} {cnt : Nat} (h : w.ranges Try.prog 9 tokR b r n D left cnt) : w.drew.ranges Try.prog 9 tokR b r n D left cnt := h

end Go.Proofs.Qxb6603859a
