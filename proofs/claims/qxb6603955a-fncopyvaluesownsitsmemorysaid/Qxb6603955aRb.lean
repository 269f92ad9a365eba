import Derived.Test.Qxb6603955aRa
namespace Go.Proofs.Qxb6603955a.Cv
open Go.RowKit Go.Deep
set_option linter.unusedVariables false

theorem info25 : (Try.prog.info? 25).map (fun i => (i.zero, i.size, i.bytes)) = some (some (.slice none 0 0), 1, 24) := by kernel_rfl
theorem info5 : (Try.prog.info? 5).map (fun i => (i.zero, i.size, i.bytes)) = some (some (.int .u8 0), 1, 1) := by kernel_rfl

/-- How many of the first k slices are not nil. -/
def nn (A : Nat → Option Addr) : Nat → Nat
  | 0 => 0
  | k + 1 => nn A k + (if (A k).isSome then 1 else 0)
theorem nn_mono (A : Nat → Option Addr) {k n : Nat} (h : k ≤ n) : nn A k ≤ nn A n := by
  induction n with
  | zero => have : k = 0 := by omega
            subst this; exact Nat.le_refl _
  | succ n ih =>
    by_cases e : k = n + 1
    · subst e; exact Nat.le_refl _
    · have := ih (by omega)
      simp only [nn]; omega
theorem nn_lt (A : Nat → Option Addr) {r k : Nat} (h : r < k) (hs : (A r).isSome = true) : nn A r < nn A k := by
  have := nn_mono A (show r + 1 ≤ k from h)
  simp only [nn, hs, if_true] at this; omega

/-- The clone's slice r. -/
def clVal (g : Nat) (A : Nat → Option Addr) (L : Nat → Nat) (r : Nat) : Value := if (A r).isSome then .slice (some ⟨g + 1 + nn A r, 0, none⟩) (L r) (L r) else .slice none 0 0
def clOut (g : Nat) (A : Nat → Option Addr) (L : Nat → Nat) (k r : Nat) : Value := if r < k then clVal g A L r else .slice none 0 0

/-- How far the clone has come: the first k slices. -/
structure ClInv (w wr : World) (n k : Nat) (A : Nat → Option Addr) (L : Nat → Nat) (X : Nat → Nat → Int) : Prop where
  size : wr.heap.size = w.heap.size + 1 + nn A k
  bel : Below w.heap.size w wr
  outer : wr.rowIs w.heap.size 25 n (clOut w.heap.size A L k)
  inner : ∀ r, r < k → (A r).isSome = true → wr.rowIs (w.heap.size + 1 + nn A r) 5 (L r) (fun c => .int .u8 (X r c))

theorem ClInv.start (w : World) (n : Nat) (A : Nat → Option Addr) (L : Nat → Nat) (X : Nat → Nat → Int) : ClInv w (w.alloc (.cells (madeCells #[.slice none 0 0] n) 25)) n 0 A L X :=
  ⟨by simp [nn], (Below.refl _ _).alloc (Nat.le_refl _) _, (World.rowIs_made w _ n 25).congr (fun j _ => by simp [clOut]), fun r hr => by omega⟩

theorem ClInv.skip {w wr : World} {n k : Nat} {A : Nat → Option Addr} {L : Nat → Nat} {X : Nat → Nat → Int} (h : ClInv w wr n k A L X) (hA : A k = none) : ClInv w wr n (k + 1) A L X := by
  refine ⟨by rw [h.size]; simp [nn, hA], h.bel, h.outer.congr (fun j _ => ?_), fun r hr hs => ?_⟩
  · unfold clOut
    by_cases e : j = k
    · subst e; simp [clVal, hA]
    · by_cases e2 : j < k
      · rw [if_pos e2, if_pos (by omega)]
      · rw [if_neg e2, if_neg (by omega)]
  · by_cases e : r = k
    · subst e; rw [hA] at hs; cases hs
    · exact h.inner r (by omega) hs

theorem ClInv.add {w wr w2 : World} {n k : Nat} {A : Nat → Option Addr} {L : Nat → Nat} {X : Nat → Nat → Int} (h : ClInv w wr n k A L X) (hA : (A k).isSome = true)
    (hs : w2.heap.size = wr.heap.size + 1) (hb : Below wr.heap.size wr w2) (hr : w2.rowIs wr.heap.size 5 (L k) (fun c => .int .u8 (X k c))) :
    ClInv w (w2.setCell ⟨w.heap.size, k, none⟩ (.slice (some ⟨wr.heap.size, 0, none⟩) (L k) (L k))) n (k + 1) A L X := by
  have hsz := h.size
  have hlt : w.heap.size < wr.heap.size := by omega
  refine ⟨by rw [nblk_setCell, hs, hsz]; simp [nn, hA]; omega, (h.bel.trans (hb.mono (by omega))).setCell (p := ⟨w.heap.size, k, none⟩) (Nat.le_refl _) _, ?_, fun r hr' hs' => ?_⟩
  · have ho : w2.rowIs w.heap.size 25 n (clOut w.heap.size A L k) := h.outer.of_block (hb.block _ hlt)
    refine (ho.set k _).congr (fun j _ => ?_)
    unfold clOut
    by_cases e : j = k
    · subst e; rw [if_pos rfl, if_pos (by omega)]; simp [clVal, hA, hsz]
    · rw [if_neg e]
      by_cases e2 : j < k
      · rw [if_pos e2, if_pos (by omega)]
      · rw [if_neg e2, if_neg (by omega)]
  · by_cases e : r = k
    · subst e; rw [← hsz]; exact hr.setOther (by simp; omega) _
    · have := nn_lt A (show r < k by omega) hs'
      exact ((h.inner r (by omega) hs').of_block (hb.block _ (by omega))).setOther (by simp; omega) _

/-- The half-filled inner row. -/
def fillB (X : Nat → Nat → Int) (r k : Nat) (j : Nat) : Value := if j < k then .int .u8 (X r j) else .int .u8 0
theorem fillB_zero (X : Nat → Nat → Int) (r j : Nat) : Value.int .u8 0 = fillB X r 0 j := by simp [fillB]
theorem fillB_succ (X : Nat → Nat → Int) (r k j : Nat) : (if j = k then Value.int .u8 (X r k) else fillB X r k j) = fillB X r (k + 1) j := by
  unfold fillB
  by_cases h : j = k
  · subst h; simp
  · by_cases h2 : j < k
    · rw [if_neg h, if_pos h2, if_pos (by omega)]
    · rw [if_neg h, if_neg h2, if_neg (by omega)]
theorem fillB_full (X : Nat → Nat → Int) (r k j : Nat) (h : j < k) : fillB X r k j = .int .u8 (X r j) := by simp [fillB, h]

set_option maxHeartbeats 2000000 in
theorem clone8_some (bl ol n cap : Nat) (A : Nat → Option Addr) (L C b o : Nat → Nat) (X : Nat → Nat → Int) (w : World) (hn : n ≤ 1048576) (hL : ∀ j, j < n → L j ≤ 1048576)
    (h : RowB w bl ol n A L C b o X) (hin : Within 0 w.heap.size bl n L b) (hnil : ∀ j, j < n → A j = none → L j = 0) :
    Calls Try.prog 8 #[.slice (some ⟨bl, ol, none⟩) n cap] w fun e w' => e = .returned (.slice (some ⟨w.heap.size, 0, none⟩) n n) ∧ ClInv w w' n n A L X := by
  have hmk := fun wx => run_make_row' (P := Try.prog) 22 25 (.slice none 0 0) 24 Try.underlying22 info25 rfl .i64 .i64 n (by omega) (by omega) wx
  have hnl := fun wx => Lib.run_eql_slice_nil (P := Try.prog) wx 22 25 (some ⟨bl, ol, none⟩) n cap 0 0 Try.underlying22
  go_enter Try.func8, Try.ntmps8
  go_wp2
  go_loopw [4] (fun i wr => ∃ k : Nat, k ≤ n ∧ i = .int .i64 k ∧ ClInv w wr n k A L X) (fun i _ => n - (intOf i).toNat)
  case atStart => exact ⟨0, Nat.zero_le _, rfl, ClInv.start w n A L X⟩
  case round =>
    obtain ⟨k, hk, rfl, hinv⟩ := hrel
    clear hmk hnl
    obtain ⟨wo, rfl⟩ : ∃ wo, wo = wr := ⟨_, rfl⟩
    by_cases hlt : k < n
    · have hck : wo.cell? ⟨bl, ol + k, none⟩ = some (.slice (A k) (L k) (C k)) := (hinv.bel.cell (p := ⟨bl, ol + k, none⟩) hin.outer.2).trans (h.outer k hlt)
      cases hA : A k with
      | none =>
        have hLk : L k = 0 := hnil k hlt hA
        have hN := hinv.skip hA
        have hnv := fun wx => run_neq_slice_nil_any (P := Try.prog) wx 25 5 none (L k) (C k) 0 0 Try.underlying25
        rw [hA] at hck
        clear hA hLk
        go_wp2
        go_roundw
        case rel => exact ⟨k + 1, by omega, by go_num, hN⟩
        case measure => simp [intOf]; omega
      | some x =>
        have hs : (A k).isSome = true := by rw [hA]; rfl
        rw [hA] at hck
        have hnv := fun wx => run_neq_slice_nil_any (P := Try.prog) wx 25 5 (some x) (L k) (C k) 0 0 Try.underlying25
        have hmk := fun wx => run_make_row' (P := Try.prog) 25 5 (.int .u8 0) 1 Try.underlying25 info5 rfl .i64 .i64 (L k) (by have := hL k hlt; omega) (by have := hL k hlt; omega) wx
        have hoc := hinv.outer.cell hlt
        have hof := hinv.outer.frozen k
        have hsz := hinv.size
        have HS : Hid _ := hsz
        have hgs : w.heap.size < wo.heap.size := by omega
        have hx : 0 < L k → x = ⟨b k, o k, none⟩ := fun hp => by have := h.addr k hlt hp; rw [hA] at this; exact Option.some.inj this
        have HX : Hid _ := hx
        have HA : Hid _ := hA
        have hLk := hL k hlt
        clear hA hsz hx
        go_wp2
        go_loopw [7] (fun i w2 => ∃ j : Nat, j ≤ L k ∧ i = .int .i64 j ∧ w2.heap.size = wo.heap.size + 1 ∧ Below wo.heap.size wo w2 ∧ w2.rowIs wo.heap.size 5 (L k) (fillB X k j)) (fun i _ => L k - (intOf i).toNat)
        case atStart => exact ⟨0, Nat.zero_le _, rfl, by simp, (Below.refl _ _).alloc (Nat.le_refl _) _, (World.rowIs_made wo _ (L k) 5).congr (fun j _ => fillB_zero X k j)⟩
        case round =>
          obtain ⟨j, hj, rfl, hsz2, hb2, hr2⟩ := hrel
          have HZ : Hid _ := hsz2
          clear hsz2
          by_cases hjl : j < L k
          · have hxx := HX.out (by omega)
            have hcj : wr.cell? ⟨b k, o k + j, none⟩ = some (.int .u8 (X k j)) := by
              have h1 := hin.inner k hlt (by omega)
              rw [hb2.cell (p := ⟨b k, o k + j, none⟩) (by show b k < _; omega), hinv.bel.cell (p := ⟨b k, o k + j, none⟩) h1.2]
              exact h.cells k j hlt hjl
            subst hxx
            have hf := hr2.frozen j
            have hcc := hr2.cell hjl
            go_wp2
            go_roundw
            case rel => exact ⟨j + 1, by omega, by go_num, by rw [nblk_setCell]; exact HZ.out, hb2.setCell (Nat.le_refl _) _, (hr2.set j _).congr (fun i _ => fillB_succ X k j i)⟩
            case measure => simp [intOf]; omega
          · obtain rfl : j = L k := by omega
            have hoc2 : wr.cell? ⟨w.heap.size, k, none⟩ = some (clOut w.heap.size A L k k) := (hb2.cell (p := ⟨w.heap.size, k, none⟩) hgs).trans hoc
            have hof2 : wr.frozen? ⟨w.heap.size, k, none⟩ = false := (hb2.frozen (p := ⟨w.heap.size, k, none⟩) hgs).trans hof
            have hN := hinv.add hs HZ.out hb2 (hr2.congr (fun i hi => fillB_full X k (L k) i hi))
            go_wp2
            go_roundw
            case rel => exact ⟨k + 1, by omega, by go_num, hN⟩
            case measure => simp [intOf]; omega
    · obtain rfl : k = n := by omega
      go_wp2
      go_ret
      exact ⟨rfl, hinv⟩

theorem clone8_nil (w : World) :
    Calls Try.prog 8 #[.slice none 0 0] w fun e w' => e = .returned (.slice none 0 0) ∧ w' = w := by
  have hnl := fun wx => Lib.run_eql_slice_nil (P := Try.prog) wx 22 25 none 0 0 0 0 Try.underlying22
  go_enter Try.func8, Try.ntmps8
  go_wp2
  go_ret
  exact ⟨rfl, rfl⟩

theorem clone8_empty (x : Addr) (cap : Nat) (w : World) :
    Calls Try.prog 8 #[.slice (some x) 0 cap] w fun e w' => e = .returned (.slice (some ⟨w.heap.size, 0, none⟩) 0 0) ∧ Below w.heap.size w w' := by
  have hmk : ∀ wx, (Instr.makeSlice 22 (.int .i64 0) (.int .i64 0)).run Try.prog wx = .ok (.slice (some ⟨wx.heap.size, 0, none⟩) 0 0) (wx.alloc (.cells (madeCells #[.slice none 0 0] 0) 25)) := fun wx => run_make_row' (P := Try.prog) 22 25 (.slice none 0 0) 24 Try.underlying22 info25 rfl .i64 .i64 0 (by omega) (by omega) wx
  have hnl := fun wx => Lib.run_eql_slice_nil (P := Try.prog) wx 22 25 (some x) 0 cap 0 0 Try.underlying22
  go_enter Try.func8, Try.ntmps8
  go_wp2
  refine wp_loop_rounds 1 ?_
  rw [rounds_succ]
  go_wp2
  go_ret
  exact ⟨rfl, (Below.refl _ _).alloc (Nat.le_refl _) _⟩

end Go.Proofs.Qxb6603955a.Cv
