import Derived.Test.Qxb6603955aRe
namespace Go.Proofs.Qxb6603955a.Cv
open Go.RowKit Go.Deep
set_option linter.unusedVariables false

theorem cell_heap {w w' : World} (h : w'.heap = w.heap) (p : Addr) : w'.cell? p = w.cell? p := by unfold World.cell?; rw [h]

/-- The three rows of the law in one memory: the values (in blocks from B0 on), what is wanted (from B1 on), what was got (from B2 on). -/
structure M3 (wr : World) (n : Nat) (L : Nat → Nat) (B0 B1 B2 : Nat) (Av Aw Ag : Nat → Option Addr) (iv iw : Nat → Nat) (Xv Xw Xg : Nat → Nat → Int) : Prop where
  v : RowB wr B0 0 n Av L L iv (fun _ => 0) Xv
  u : RowB wr B1 0 n Aw L L iw (fun _ => 0) Xw
  g : RowB wr (B2 + 1) 0 n Ag L L (fun _ => B2) (sumL L) Xg
  wv : Wr wr B0 n L iv (fun _ => 0)
  wg : Wr wr (B2 + 1) n L (fun _ => B2) (sumL L)
  nv : Within B0 B1 B0 n L iv
  nu : Within B1 B2 B1 n L iw
  ng : Within B2 (B2 + 2) (B2 + 1) n L (fun _ => B2)

section
variable {wr : World} {n : Nat} {L : Nat → Nat} {B0 B1 B2 : Nat} {Av Aw Ag : Nat → Option Addr} {iv iw : Nat → Nat} {Xv Xw Xg : Nat → Nat → Int}

theorem M3.drewN (h : M3 wr n L B0 B1 B2 Av Aw Ag iv iw Xv Xw Xg) (q : Nat) : M3 (wr.drewN q) n L B0 B1 B2 Av Aw Ag iv iw Xv Xw Xg :=
  ⟨h.v.drewN q, h.u.drewN q, h.g.drewN q, ⟨h.wv.free, h.wv.off, h.wv.inj⟩, ⟨h.wg.free, h.wg.off, h.wg.inj⟩, h.nv, h.nu, h.ng⟩

/-- What stands in the values while they are overwritten. -/
def mixV (f : Int → Int) (X : Nat → Nat → Int) (i k r c : Nat) : Int := if r < i ∨ (r = i ∧ c < k) then f (X r c) else X r c
theorem mixV_zero (f : Int → Int) (X : Nat → Nat → Int) (r c : Nat) : X r c = mixV f X 0 0 r c := by unfold mixV; rw [if_neg (by omega)]
theorem mixV_step (f : Int → Int) (X : Nat → Nat → Int) (i k r c : Nat) : (if r = i ∧ c = k then f (X i k) else mixV f X i k r c) = mixV f X i (k + 1) r c := by
  unfold mixV
  by_cases e : r = i ∧ c = k
  · obtain ⟨rfl, rfl⟩ := e; rw [if_pos ⟨rfl, rfl⟩, if_pos (by omega)]
  · rw [if_neg e]
    by_cases h : r < i ∨ (r = i ∧ c < k)
    · rw [if_pos h, if_pos (by omega)]
    · rw [if_neg h, if_neg (by omega)]
theorem mixV_row (f : Int → Int) (X : Nat → Nat → Int) (L : Nat → Nat) (i r c : Nat) (hc : c < L r) : mixV f X i (L i) r c = mixV f X (i + 1) 0 r c := by
  unfold mixV
  by_cases e : r = i
  · subst e; rw [if_pos (by omega), if_pos (by omega)]
  · by_cases h : r < i
    · rw [if_pos (by omega), if_pos (by omega)]
    · rw [if_neg (by omega), if_neg (by omega)]
theorem mixV_all (f : Int → Int) (X : Nat → Nat → Int) (n r c : Nat) (hr : r < n) : mixV f X n 0 r c = f (X r c) := by unfold mixV; rw [if_pos (by omega)]
theorem mixV_at (f : Int → Int) (X : Nat → Nat → Int) (i k : Nat) : mixV f X i k i k = X i k := by unfold mixV; rw [if_neg (by omega)]

/-- What stands in the copy while it is overwritten: byte(i) in every byte of entry i. -/
def mixG (f : Nat → Int) (X : Nat → Nat → Int) (i k r c : Nat) : Int := if r < i ∨ (r = i ∧ c < k) then f r else X r c
theorem mixG_zero (f : Nat → Int) (X : Nat → Nat → Int) (r c : Nat) : X r c = mixG f X 0 0 r c := by unfold mixG; rw [if_neg (by omega)]
theorem mixG_step (f : Nat → Int) (X : Nat → Nat → Int) (i k r c : Nat) : (if r = i ∧ c = k then f i else mixG f X i k r c) = mixG f X i (k + 1) r c := by
  unfold mixG
  by_cases e : r = i ∧ c = k
  · obtain ⟨rfl, rfl⟩ := e; rw [if_pos ⟨rfl, rfl⟩, if_pos (by omega)]
  · rw [if_neg e]
    by_cases h : r < i ∨ (r = i ∧ c < k)
    · rw [if_pos h, if_pos (by omega)]
    · rw [if_neg h, if_neg (by omega)]
theorem mixG_row (f : Nat → Int) (X : Nat → Nat → Int) (L : Nat → Nat) (i r c : Nat) (hc : c < L r) : mixG f X i (L i) r c = mixG f X (i + 1) 0 r c := by
  unfold mixG
  by_cases e : r = i
  · subst e; rw [if_pos (by omega), if_pos (by omega)]
  · by_cases h : r < i
    · rw [if_pos (by omega), if_pos (by omega)]
    · rw [if_neg (by omega), if_neg (by omega)]
theorem mixG_all (f : Nat → Int) (X : Nat → Nat → Int) (n r c : Nat) (hr : r < n) : mixG f X n 0 r c = f r := by unfold mixG; rw [if_pos (by omega)]

theorem M3.congrV (h : M3 wr n L B0 B1 B2 Av Aw Ag iv iw Xv Xw Xg) {Y : Nat → Nat → Int} (e : ∀ r c, r < n → c < L r → Xv r c = Y r c) : M3 wr n L B0 B1 B2 Av Aw Ag iv iw Y Xw Xg :=
  ⟨h.v.congr e, h.u, h.g, h.wv, h.wg, h.nv, h.nu, h.ng⟩
theorem M3.congrG (h : M3 wr n L B0 B1 B2 Av Aw Ag iv iw Xv Xw Xg) {Y : Nat → Nat → Int} (e : ∀ r c, r < n → c < L r → Xg r c = Y r c) : M3 wr n L B0 B1 B2 Av Aw Ag iv iw Xv Xw Y :=
  ⟨h.v, h.u, h.g.congr e, h.wv, h.wg, h.nv, h.nu, h.ng⟩

theorem M3.setV (h : M3 wr n L B0 B1 B2 Av Aw Ag iv iw Xv Xw Xg) {i k : Nat} (hi : i < n) (hk : k < L i) (x : Int) :
    M3 (wr.setCell ⟨iv i, 0 + k, none⟩ (.int .u8 x)) n L B0 B1 B2 Av Aw Ag iv iw (fun r c => if r = i ∧ c = k then x else Xv r c) Xw Xg := by
  have hb := h.nv.inner i hi (by omega)
  have h1 := h.nu.outer
  refine ⟨h.v.set h.wv hi hk x, h.u.keep h.nu (fun p h1 h2 => ?_), h.g.keep h.ng (fun p h1 h2 => ?_), h.wv.set _ _, h.wg.set _ _, h.nv, h.nu, h.ng⟩
  · exact World.cell?_setCell_other wr _ _ _ (fun e => by have := congrArg Addr.block e; simp at this; omega)
  · exact World.cell?_setCell_other wr _ _ _ (fun e => by have := congrArg Addr.block e; simp at this; omega)

theorem M3.setG (h : M3 wr n L B0 B1 B2 Av Aw Ag iv iw Xv Xw Xg) {i k : Nat} (hi : i < n) (hk : k < L i) (x : Int) :
    M3 (wr.setCell ⟨B2, sumL L i + k, none⟩ (.int .u8 x)) n L B0 B1 B2 Av Aw Ag iv iw Xv Xw (fun r c => if r = i ∧ c = k then x else Xg r c) := by
  have h0 := h.nv.outer
  have h1 := h.nu.outer
  refine ⟨h.v.keep h.nv (fun p h1 h2 => ?_), h.u.keep h.nu (fun p h1 h2 => ?_), h.g.set h.wg hi hk x, h.wv.set _ _, h.wg.set _ _, h.nv, h.nu, h.ng⟩
  · exact World.cell?_setCell_other wr _ _ _ (fun e => by have := congrArg Addr.block e; simp at this; omega)
  · exact World.cell?_setCell_other wr _ _ _ (fun e => by have := congrArg Addr.block e; simp at this; omega)
end

/-- Behind the two clones and the copy. -/
theorem M3.start {w w1 w2 w3 : World} {n : Nat} {A : Nat → Option Addr} {L : Nat → Nat} {X : Nat → Nat → Int} {D : Nat → Option Addr} (hnil : ∀ j, j < n → A j = none → L j = 0)
    (h1 : ClInv w w1 n n A L X) (h2 : ClInv w1 w2 n n (clAddr w.heap.size A) L X) (h3 : CpInv w2 w3 n n (clAddr w.heap.size A) L X D) :
    M3 w3 n L w.heap.size w1.heap.size w2.heap.size (clAddr w.heap.size A) (clAddr w1.heap.size (clAddr w.heap.size A)) D (fun r => w.heap.size + 1 + nn A r) (fun r => w1.heap.size + 1 + nn (clAddr w.heap.size A) r) X X X := by
  have hnil' : ∀ j, j < n → clAddr w.heap.size A j = none → L j = 0 := fun j hj he => hnil j hj (clAddr_none he)
  have n1 := h1.within hnil
  have n2 := h2.within hnil'
  have hb2 : Below w1.heap.size w1 w2 := h2.bel
  have hb3 : Below w2.heap.size w2 w3 := h3.bel
  refine ⟨((h1.row hnil).below n1 hb2).below n1 (hb3.mono h2.bel.size), (h2.row hnil').below n2 hb3, h3.row, ?_, h3.wr, n1, n2, ?_⟩
  · have := h1.wr hnil
    refine ⟨fun r c hr hc => ?_, this.off, this.inj⟩
    have hlt := (n1.inner r hr (by omega)).2
    rw [hb3.frozen (p := ⟨w.heap.size + 1 + nn A r, 0 + c, none⟩) (by have := h2.bel.size; show w.heap.size + 1 + nn A r < _; omega), hb2.frozen (p := ⟨w.heap.size + 1 + nn A r, 0 + c, none⟩) hlt]
    exact this.free r c hr hc
  · exact ⟨⟨by omega, by omega⟩, fun r hr hp => ⟨Nat.le_refl _, by show w2.heap.size < _; omega⟩⟩

end Go.Proofs.Qxb6603955a.Cv
