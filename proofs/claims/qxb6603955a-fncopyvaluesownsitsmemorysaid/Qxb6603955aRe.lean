import Derived.Test.Qxb6603955aRd
import Derived.Deep.Matrix
import Derived.OpenShut
namespace Go.Proofs.Qxb6603955a.Cv
open Go.ChangeShapes Go.WideShapes Go.ChangeAt Go.RowKit Go.Deep
set_option linter.unusedVariables false

/-- WHAT THE WALK IS TOLD OF A ROW OF SLICES OF BYTES THAT CAME IN: it is empty, or it lies in memory as 'RowB' says, all of it in old blocks. -/
def IsRows (w : World) (a : Option Addr) (n cap : Nat) : Prop :=
  (n = 0 ∧ (a = none → cap = 0)) ∨ ∃ (bl ol : Nat) (A : Nat → Option Addr) (L C b o : Nat → Nat) (X : Nat → Nat → Int), a = some ⟨bl, ol, none⟩ ∧ n ≤ maxLen ∧ (∀ j, j < n → L j ≤ maxLen) ∧ RowB w bl ol n A L C b o X ∧
    Within 0 w.heap.size bl n L b ∧ (∀ j, j < n → A j = none → L j = 0)

theorem isRows_of {H : Type} {enc : TypeId × Value → H} {w : World} {held : Bool} {fuel : Nat} {a0 : Option Addr} {n cap : Nat} {x : DataW H × List MemPlace}
    (h : DataW.trod enc Try.prog w 0 (fun _ => true) held fuel 22 [.slice a0 n cap] = some x) : IsRows w a0 n cap := by
  rcases open_int_rows (k := .u8) Try.underlying22 Try.underlying25 Try.underlying5 (by kernel_rfl) (by kernel_rfl) h with ⟨hcs, _⟩ | ⟨a, len, cp, A, L, C, Z, hcs, _, hl, hm, _, hx⟩
  · simp at hcs
    obtain ⟨rfl, rfl, rfl⟩ := hcs
    exact .inl ⟨rfl, fun _ => rfl⟩
  · simp at hcs
    obtain ⟨rfl, rfl, rfl⟩ := hcs
    by_cases h0 : n = 0
    · exact .inl ⟨h0, fun h => by cases h⟩
    · obtain ⟨bl, ol, sp⟩ := a
      have c0 := (hx 0 (by omega)).1
      have hsp : sp = none := by simpa [Addr.add] using World.cell?_spot c0
      subst hsp
      have hb0 : bl < w.heap.size := by simpa [Addr.add] using World.block_lt_of_cell? w _ c0
      have hpos : ∀ r, r < n → 0 < L r → ∃ b' o', A r = some ⟨b', o', none⟩ ∧ b' < w.heap.size := fun r hr hp => by
        obtain ⟨h1, h2, h3, h4, h5, h6, h7⟩ := hx r (by omega)
        cases hA : A r with
        | none => have := h6 hA; omega
        | some a' =>
          obtain ⟨b', o', s'⟩ := a'
          have c1 := (h7 _ hA).2 0 (by omega)
          have hs' : s' = none := by simpa [Addr.add] using World.cell?_spot c1
          subst hs'
          exact ⟨b', o', rfl, by simpa [Addr.add] using World.block_lt_of_cell? w _ c1⟩
      refine .inr ⟨bl, ol, A, L, C, fun r => match A r with | some a' => a'.block | none => 0, fun r => match A r with | some a' => a'.off | none => 0, fun r c => (Z r).getD c 0, rfl, by omega, ?_, ?_, ?_, ?_⟩
      · intro j hj
        obtain ⟨h1, h2, h3, _⟩ := hx j (by omega)
        omega
      · refine ⟨fun r hr => ?_, fun r hr hp => ?_, fun r c hr hc => ?_⟩
        · rw [← add_plain]; exact (hx r (by omega)).1
        · obtain ⟨b', o', e, _⟩ := hpos r hr hp
          rw [e]
        · obtain ⟨b', o', e, _⟩ := hpos r hr (by omega)
          obtain ⟨h1, h2, h3, h4, h5, h6, h7⟩ := hx r (by omega)
          have c1 := (h7 _ e).2 c (by omega)
          rw [add_plain] at c1
          simp only [e]
          exact c1
      · refine ⟨⟨Nat.zero_le _, hb0⟩, fun r hr hp => ⟨Nat.zero_le _, ?_⟩⟩
        obtain ⟨b', o', e, hb'⟩ := hpos r hr hp
        simp only [e]
        exact hb'
      · intro j hj hA
        obtain ⟨h1, h2, h3, h4, h5, h6, h7⟩ := hx j (by omega)
        have := h6 hA
        omega

end Go.Proofs.Qxb6603955a.Cv
