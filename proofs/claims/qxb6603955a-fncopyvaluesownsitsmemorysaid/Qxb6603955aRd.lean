import Derived.Test.Qxb6603955aRc
namespace Go.Proofs.Qxb6603955a.Cv
open Go.RowKit Go.Deep
set_option linter.unusedVariables false

/-- A row whose bytes may be written: not frozen; apart from one another and from the row's own cells. -/
structure Wr (w : World) (bl n : Nat) (L b o : Nat → Nat) : Prop where
  free : ∀ r c, r < n → c < L r → w.frozen? ⟨b r, o r + c, none⟩ = false
  off : ∀ r, r < n → 0 < L r → b r ≠ bl
  inj : ∀ r c r' c', r < n → c < L r → r' < n → c' < L r' → b r = b r' → o r + c = o r' + c' → r = r' ∧ c = c'

/-- A store into byte k of slice i. -/
theorem RowB.set {w : World} {bl ol n : Nat} {A : Nat → Option Addr} {L C b o : Nat → Nat} {X : Nat → Nat → Int} (h : RowB w bl ol n A L C b o X) (hw : Wr w bl n L b o) {i k : Nat} (hi : i < n) (hk : k < L i) (v : Int) :
    RowB (w.setCell ⟨b i, o i + k, none⟩ (.int .u8 v)) bl ol n A L C b o (fun r c => if r = i ∧ c = k then v else X r c) := by
  refine ⟨fun r hr => ?_, h.addr, fun r c hr hc => ?_⟩
  · have hne : (⟨b i, o i + k, none⟩ : Addr) ≠ ⟨bl, ol + r, none⟩ := fun e => hw.off i hi (by omega) (congrArg Addr.block e)
    exact (World.cell?_setCell_other w _ _ _ hne).trans (h.outer r hr)
  · by_cases e : r = i ∧ c = k
    · obtain ⟨rfl, rfl⟩ := e
      rw [if_pos ⟨rfl, rfl⟩]
      exact World.cell?_setCell_same w _ _ (h.cells r c hr hc)
    · rw [if_neg e]
      have hne : (⟨b i, o i + k, none⟩ : Addr) ≠ ⟨b r, o r + c, none⟩ := fun e' => by
        simp only [Addr.mk.injEq, and_true] at e'
        have := hw.inj i k r c hi hk hr hc e'.1 e'.2
        exact e ⟨this.1.symm, this.2.symm⟩
      exact (World.cell?_setCell_other w _ _ _ hne).trans (h.cells r c hr hc)

theorem Wr.set {w : World} {bl n : Nat} {L b o : Nat → Nat} (h : Wr w bl n L b o) (p : Addr) (v : Value) : Wr (w.setCell p v) bl n L b o :=
  ⟨fun r c hr hc => by rw [World.frozen?_setCell]; exact h.free r c hr hc, h.off, h.inj⟩

theorem RowB.congr {w : World} {bl ol n : Nat} {A : Nat → Option Addr} {L C b o : Nat → Nat} {X Y : Nat → Nat → Int} (h : RowB w bl ol n A L C b o X) (e : ∀ r c, r < n → c < L r → X r c = Y r c) : RowB w bl ol n A L C b o Y :=
  ⟨h.outer, h.addr, fun r c hr hc => by rw [h.cells r c hr hc, e r c hr hc]⟩

/-! ### The clone -/
def clAddr (g : Nat) (A : Nat → Option Addr) (r : Nat) : Option Addr := if (A r).isSome then some ⟨g + 1 + nn A r, 0, none⟩ else none
theorem clAddr_isNone (g : Nat) (A : Nat → Option Addr) (r : Nat) : (clAddr g A r).isNone = (A r).isNone := by
  unfold clAddr; cases A r <;> rfl
theorem clAddr_none {g : Nat} {A : Nat → Option Addr} {r : Nat} (h : clAddr g A r = none) : A r = none := by
  have := clAddr_isNone g A r
  rw [h] at this
  exact Option.isNone_iff_eq_none.1 this.symm

theorem some_of_pos {A : Nat → Option Addr} {L : Nat → Nat} {n r : Nat} (hnil : ∀ j, j < n → A j = none → L j = 0) (hr : r < n) (hp : 0 < L r) : (A r).isSome = true := by
  cases e : A r with
  | none => have := hnil r hr e; omega
  | some _ => rfl

theorem ClInv.row {w w' : World} {n : Nat} {A : Nat → Option Addr} {L : Nat → Nat} {X : Nat → Nat → Int} (h : ClInv w w' n n A L X) (hnil : ∀ j, j < n → A j = none → L j = 0) :
    RowB w' w.heap.size 0 n (clAddr w.heap.size A) L L (fun r => w.heap.size + 1 + nn A r) (fun _ => 0) X := by
  refine ⟨fun r hr => ?_, fun r hr hp => ?_, fun r c hr hc => ?_⟩
  · rw [Nat.zero_add, h.outer.cell hr]
    unfold clOut clVal clAddr
    rw [if_pos hr]
    cases e : A r with
    | none => rw [hnil r hr e]; rfl
    | some _ => rfl
  · unfold clAddr
    rw [if_pos (some_of_pos hnil hr hp)]
  · rw [Nat.zero_add]
    exact (h.inner r hr (some_of_pos hnil hr (by omega))).cell hc

theorem ClInv.within {w w' : World} {n : Nat} {A : Nat → Option Addr} {L : Nat → Nat} {X : Nat → Nat → Int} (h : ClInv w w' n n A L X) (hnil : ∀ j, j < n → A j = none → L j = 0) :
    Within w.heap.size w'.heap.size w.heap.size n L (fun r => w.heap.size + 1 + nn A r) := by
  have hs := h.size
  refine ⟨⟨Nat.le_refl _, by omega⟩, fun r hr hp => ⟨by show w.heap.size ≤ w.heap.size + 1 + nn A r; omega, ?_⟩⟩
  have := nn_lt A hr (some_of_pos hnil hr hp)
  show w.heap.size + 1 + nn A r < _
  omega

theorem ClInv.wr {w w' : World} {n : Nat} {A : Nat → Option Addr} {L : Nat → Nat} {X : Nat → Nat → Int} (h : ClInv w w' n n A L X) (hnil : ∀ j, j < n → A j = none → L j = 0) :
    Wr w' w.heap.size n L (fun r => w.heap.size + 1 + nn A r) (fun _ => 0) := by
  refine ⟨fun r c hr hc => (h.inner r hr (some_of_pos hnil hr (by omega))).frozen _, fun r hr hp => by show w.heap.size + 1 + nn A r ≠ _; omega, fun r c r' c' hr hc hr' hc' e1 e2 => ?_⟩
  have e3 : w.heap.size + 1 + nn A r = w.heap.size + 1 + nn A r' := e1
  have e4 : 0 + c = 0 + c' := e2
  refine ⟨?_, by omega⟩
  rcases Nat.lt_trichotomy r r' with hl | hl | hl
  · have := nn_lt A hl (some_of_pos hnil hr (by omega)); omega
  · exact hl
  · have := nn_lt A hl (some_of_pos hnil hr' (by omega)); omega

theorem Within.mono {lo hi lo' hi' bl n : Nat} {L b : Nat → Nat} (h : Within lo hi bl n L b) (h1 : lo' ≤ lo) (h2 : hi ≤ hi') : Within lo' hi' bl n L b :=
  ⟨⟨by have := h.outer.1; omega, by have := h.outer.2; omega⟩, fun r hr hp => ⟨by have := (h.inner r hr hp).1; omega, by have := (h.inner r hr hp).2; omega⟩⟩

/-! ### What copyValues made -/
theorem CpInv.row {w w' : World} {n : Nat} {A : Nat → Option Addr} {L : Nat → Nat} {X : Nat → Nat → Int} {D : Nat → Option Addr} (h : CpInv w w' n n A L X D) :
    RowB w' (w.heap.size + 1) 0 n D L L (fun _ => w.heap.size) (sumL L) X := by
  refine ⟨fun r hr => ?_, h.addr, fun r c hr hc => ?_⟩
  · rw [Nat.zero_add, h.outer.cell hr]
    unfold cpOut
    rw [if_pos hr]
  · have := sumL_le L hr
    rw [h.own.cellAt (sumL L r + c) (by omega)]
    exact flat_at hr hc

theorem CpInv.within {w w' : World} {n : Nat} {A : Nat → Option Addr} {L : Nat → Nat} {X : Nat → Nat → Int} {D : Nat → Option Addr} (h : CpInv w w' n n A L X D) :
    Within w.heap.size w'.heap.size (w.heap.size + 1) n L (fun _ => w.heap.size) := by
  have hs := h.size
  exact ⟨⟨by omega, by omega⟩, fun r hr hp => ⟨Nat.le_refl _, by show w.heap.size < _; omega⟩⟩

theorem CpInv.wr {w w' : World} {n : Nat} {A : Nat → Option Addr} {L : Nat → Nat} {X : Nat → Nat → Int} {D : Nat → Option Addr} (h : CpInv w w' n n A L X D) :
    Wr w' (w.heap.size + 1) n L (fun _ => w.heap.size) (sumL L) := by
  refine ⟨fun r c hr hc => h.own.frozenAt _, fun r hr hp => by show w.heap.size ≠ _; omega, fun r c r' c' hr hc hr' hc' e1 e2 => ?_⟩
  rcases Nat.lt_trichotomy r r' with hl | hl | hl
  · have := sumL_le L hl; omega
  · subst hl; exact ⟨rfl, by omega⟩
  · have := sumL_le L hl; omega

end Go.Proofs.Qxb6603955a.Cv
