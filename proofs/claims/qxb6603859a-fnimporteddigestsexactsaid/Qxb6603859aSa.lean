import Derived.Test.Qxb6603859aProg
import Derived.WalkKit
import Derived.ProofKit
import Derived.WalkSpells
import Derived.WalkLawsBesides
import Derived.WalkSmall
import Derived.Deep.OwnRows
namespace Go.Proofs.Qxb6603859a
open Go.RowKit Go.Deep
set_option linter.unusedVariables false

/-- The sum of the first k strings' lengths. -/
def sumLen (S : Nat → ByteArray) : Nat → Nat
  | 0 => 0
  | k + 1 => sumLen S k + (S k).size

theorem sumLen_mono (S : Nat → ByteArray) {k n : Nat} (h : k ≤ n) : sumLen S k ≤ sumLen S n := by
  induction n with
  | zero => have : k = 0 := by omega
            subst this; exact Nat.le_refl _
  | succ n ih =>
    by_cases e : k = n + 1
    · subst e; exact Nat.le_refl _
    · have := ih (by omega)
      simp only [sumLen]; omega

theorem sumLen_le (S : Nat → ByteArray) {k n : Nat} (h : k < n) : (S k).size ≤ sumLen S n := by
  have := sumLen_mono S (show k + 1 ≤ n from h)
  simp only [sumLen] at this; omega


/-- A slice of n strings S 0 .. S (n-1): it is empty, wherever it points; or its cells lie in memory. -/
def Strs (w : World) (a : Option Addr) (n : Nat) (S : Nat → ByteArray) : Prop :=
  n = 0 ∨ ∃ b o, a = some ⟨b, o, none⟩ ∧ b < w.heap.size ∧ ∀ j, j < n → w.cell? ⟨b, o + j, none⟩ = some (.string (S j))

theorem Strs.below {w w' : World} {a : Option Addr} {n : Nat} {S : Nat → ByteArray} (h : Strs w a n S) (hb : Below w.heap.size w w') : Strs w' a n S := by
  rcases h with h | ⟨b, o, rfl, hlt, hc⟩
  · exact .inl h
  · exact .inr ⟨b, o, rfl, Nat.lt_of_lt_of_le hlt hb.size, fun j hj => (hb.cell (p := ⟨b, o + j, none⟩) hlt).trans (hc j hj)⟩

/-- WHAT THE WALK IS TOLD OF A SLICE OF STRINGS THAT CAME IN: it is nil; or it leads to a row of 'cap' cells, the strings 'ss' (the first 'len' are its elements). -/
def IsStrs (w : World) (a : Option Addr) (len cap : Nat) (ss : List ByteArray) : Prop :=
  (a = none ∧ len = 0 ∧ cap = 0 ∧ ss = []) ∨
  ∃ x, a = some x ∧ len ≤ cap ∧ cap ≤ maxLen ∧ ss.length = cap ∧ (∀ i, i < ss.length → w.cell? (x.add i) = some (.string (ss.getD i ByteArray.empty))) ∧ ∀ s ∈ ss, s.size ≤ maxLen

theorem IsStrs.len {w : World} {a : Option Addr} {len cap : Nat} {ss : List ByteArray} (h : IsStrs w a len cap ss) : len ≤ maxLen := by
  rcases h with ⟨_, rfl, _⟩ | ⟨_, _, h1, h2, _⟩
  · exact Nat.zero_le _
  · exact Nat.le_trans h1 h2
theorem IsStrs.nil {w : World} {a : Option Addr} {len cap : Nat} {ss : List ByteArray} (h : IsStrs w a len cap ss) : a = none → len = 0 ∧ cap = 0 := by
  rcases h with ⟨_, rfl, rfl, _⟩ | ⟨_, rfl, _⟩
  · exact fun _ => ⟨rfl, rfl⟩
  · intro h; cases h
theorem IsStrs.sizes {w : World} {a : Option Addr} {len cap : Nat} {ss : List ByteArray} (h : IsStrs w a len cap ss) : ∀ j, j < len → ((fun j => ss.getD j ByteArray.empty) j).size ≤ maxLen := by
  rcases h with ⟨_, rfl, rfl, _⟩ | ⟨_, rfl, hl, _, hz, _, hw⟩
  · intro j hj; omega
  · intro j hj
    have hj' : j < ss.length := by omega
    simp only [List.getD, List.getElem?_eq_getElem hj', Option.getD_some]
    exact hw _ (List.getElem_mem hj')
theorem IsStrs.strs {w : World} {a : Option Addr} {len cap : Nat} {ss : List ByteArray} (h : IsStrs w a len cap ss) : Strs w a len (fun j => ss.getD j ByteArray.empty) := by
  rcases h with ⟨_, rfl, rfl, _⟩ | ⟨x, rfl, hl, _, hz, hc, hw⟩
  · exact .inl rfl
  · by_cases h0 : len = 0
    · exact .inl h0
    · obtain ⟨b, o, sp⟩ := x
      have h1 := hc 0 (by omega)
      have hsp : sp = none := by simpa [Addr.add] using World.cell?_spot h1
      subst hsp
      refine .inr ⟨b, o, rfl, ?_, fun j hj => ?_⟩
      · simpa [Addr.add] using World.block_lt_of_cell? w _ h1
      · rw [← Go.WideShapes.add_plain]
        exact hc j (by omega)

/-- What a test of sizes says: it answers a bool, the world is as it was, and where it answers true 'p' holds. -/
def RB (w : World) (p : Prop) (e : Ending) (w' : World) : Prop := ∃ r : Bool, e = .returned (.bool r) ∧ w' = w ∧ (r = true → p)
theorem RB.no (w : World) (p : Prop) : RB w p (.returned (.bool false)) w := ⟨false, rfl, rfl, by simp⟩
theorem RB.yes (w : World) (p : Prop) (h : p) : RB w p (.returned (.bool true)) w := ⟨true, rfl, rfl, fun _ => h⟩



end Go.Proofs.Qxb6603859a
