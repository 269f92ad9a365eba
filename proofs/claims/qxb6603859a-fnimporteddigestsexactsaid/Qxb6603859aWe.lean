import Derived.Test.Qxb6603859aWd
import Derived.Deep.QuietTactic
import Derived.BigQuiet
namespace Go.Proofs.Qxb6603859a
open Go.RowKit Go.Deep Go.Maps
set_option linter.unusedVariables false

/-- What the half-filled row holds. -/
def fillTo (S : Nat → ByteArray) (k : Nat) (j : Nat) : Value := if j < k then .string (S j) else .string ByteArray.empty
theorem fillTo_zero (S : Nat → ByteArray) (j : Nat) : Value.string ByteArray.empty = fillTo S 0 j := by simp [fillTo]
theorem fillTo_succ (S : Nat → ByteArray) (k j : Nat) : (if j = k then Value.string (S k) else fillTo S k j) = fillTo S (k + 1) j := by
  unfold fillTo
  by_cases h : j = k
  · subst h; simp
  · by_cases h2 : j < k
    · rw [if_neg h, if_pos h2, if_pos (by omega)]
    · rw [if_neg h, if_neg h2, if_neg (by omega)]
theorem fillTo_full (S : Nat → ByteArray) (k j : Nat) (h : j < k) : fillTo S k j = .string (S j) := by simp [fillTo, h]


/-- The strings of 48 bytes among the first k. -/
def Vs (S : Nat → ByteArray) : Nat → List ByteArray
  | 0 => []
  | k + 1 => if (S k).size = 48 then Vs S k ++ [S k] else Vs S k
theorem Vs_length (S : Nat → ByteArray) (k : Nat) : (Vs S k).length ≤ k := by
  induction k with
  | zero => exact Nat.le_refl _
  | succ k ih =>
    simp only [Vs]
    split
    · simp; omega
    · omega
theorem Vs_mem (S : Nat → ByteArray) (k : Nat) (x : ByteArray) : x ∈ Vs S k ↔ ∃ j, j < k ∧ S j = x ∧ x.size = 48 := by
  induction k with
  | zero => simp [Vs]
  | succ k ih =>
    have key : (∃ j, j < k + 1 ∧ S j = x ∧ x.size = 48) ↔ (∃ j, j < k ∧ S j = x ∧ x.size = 48) ∨ (S k = x ∧ x.size = 48) := by
      constructor
      · rintro ⟨j, hj, h⟩
        by_cases e : j = k
        · subst e; exact .inr h
        · exact .inl ⟨j, by omega, h⟩
      · rintro (⟨j, hj, h⟩ | h)
        · exact ⟨j, by omega, h⟩
        · exact ⟨k, by omega, h⟩
    rw [key, ← ih]
    simp only [Vs]
    by_cases h : (S k).size = 48
    · rw [if_pos h, List.mem_append, List.mem_singleton]
      constructor
      · rintro (h1 | rfl)
        · exact .inl h1
        · exact .inr ⟨rfl, h⟩
      · rintro (h1 | ⟨rfl, _⟩)
        · exact .inl h1
        · exact .inr rfl
    · rw [if_neg h]
      constructor
      · exact .inl
      · rintro (h1 | ⟨rfl, h2⟩)
        · exact h1
        · exact absurd h2 h

/-- A row of m strings from the head of block g on, which may be written. -/
structure VRow (w : World) (g m : Nat) (U : Nat → ByteArray) : Prop where
  cells : ∀ p, p < m → w.cell? ⟨g, p, none⟩ = some (.string (U p))
  free : ∀ p, w.frozen? ⟨g, p, none⟩ = false
  lt : g < w.heap.size

theorem VRow.below {w w' : World} {g m B : Nat} {U : Nat → ByteArray} (h : VRow w g m U) (hb : Below B w w') (hB : g < B) : VRow w' g m U :=
  ⟨fun p hp => (hb.cell (p := ⟨g, p, none⟩) hB).trans (h.cells p hp), fun p => (hb.frozen (p := ⟨g, p, none⟩) hB).trans (h.free p), Nat.lt_of_lt_of_le h.lt hb.size⟩
theorem VRow.drewN {w : World} {g m : Nat} {U : Nat → ByteArray} (h : VRow w g m U) (q : Nat) : VRow (w.drewN q) g m U := ⟨h.cells, h.free, h.lt⟩

theorem VRow.swap {w : World} {g m j : Nat} {U : Nat → ByteArray} (h : VRow w g m U) (hj : 0 < j) (hm : j < m) : VRow ((w.setCell ⟨g, j, none⟩ (.string (U (j - 1)))).setCell ⟨g, j - 1, none⟩ (.string (U j))) g m (swp U j) := by
  refine ⟨fun p hp => ?_, fun p => by rw [World.frozen?_setCell, World.frozen?_setCell]; exact h.free p, by rw [nblk_setCell, nblk_setCell]; exact h.lt⟩
  have hne : (⟨g, j, none⟩ : Addr) ≠ ⟨g, j - 1, none⟩ := fun e => by have := congrArg Addr.off e; simp at this; omega
  unfold swp
  by_cases a : p = j
  · subst a
    rw [if_pos rfl, World.cell?_setCell_other _ _ _ _ hne.symm]
    exact World.cell?_setCell_same w _ _ (h.cells p hp)
  · rw [if_neg a]
    by_cases b : p = j - 1
    · subst b
      rw [if_pos rfl]
      exact World.cell?_setCell_same _ _ _ ((World.cell?_setCell_other w _ _ _ hne).trans (h.cells (j - 1) hp))
    · rw [if_neg b, World.cell?_setCell_other _ _ _ _ (fun e => b (by have := congrArg Addr.off e; simpa using this.symm)), World.cell?_setCell_other _ _ _ _ (fun e => a (by have := congrArg Addr.off e; simpa using this.symm))]
      exact h.cells p hp

theorem VRow.of_owns {w : World} {base g m cap : Nat} {l : List ByteArray} (h : w.ownsRow base 9 1 (.slice (some ⟨g, 0, none⟩) m cap) m (l.map Value.string)) (hl : l.length = m) : VRow w g m (fun p => l.getD p ByteArray.empty) := by
  refine ⟨fun p hp => ?_, fun p => h.frozenAt p, (h.lt g rfl).2⟩
  rw [h.cellAt p (by omega), List.getElem?_map, List.getElem?_eq_getElem (by omega)]
  simp [List.getD, List.getElem?_eq_getElem (show p < l.length by omega)]

theorem make0 (t : Nat) (ht : t ≤ 1048576) (w : World) : (Instr.makeSlice 25 (.int .i64 0) (.int .i64 (t : Int))).run Try.prog w = .ok (.slice (some ⟨w.heap.size, 0, none⟩) 0 t) (w.alloc (.cells (madeCells #[.string ByteArray.empty] t) 9)) := by
  obtain ⟨i, hi, hz, hs, hb⟩ := info_parts info9
  have hr := run_make (P := Try.prog) w 25 9 i (.string ByteArray.empty) Try.underlying25 hi hz .i64 .i64 0 t (Int.le_refl _) (by omega) (by rw [hb]; omega) (by omega)
  simp only [Int.toNat_zero, Int.toNat_natCast, hs, Nat.mul_one] at hr
  exact hr

/-- What 'make([]string, 0, n)' lays. -/
theorem owns_made (w : World) (base t : Nat) (hb : base ≤ w.heap.size) (ht : t ≤ 1048576) : (w.alloc (.cells (madeCells #[.string ByteArray.empty] t) 9)).ownsRow base 9 1 (.slice (some ⟨w.heap.size, 0, none⟩) 0 t) 0 [] := by
  have := World.ownsRow_made (base := base) (e := 9) (size := 1) w (madeCells #[.string ByteArray.empty] t) t hb (by unfold maxLen; omega) (by rw [size_madeCells, Nat.mul_one])
  simpa using this

end Go.Proofs.Qxb6603859a
