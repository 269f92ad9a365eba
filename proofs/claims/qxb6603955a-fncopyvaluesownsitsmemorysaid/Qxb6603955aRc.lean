import Derived.Test.Qxb6603955aRb
namespace Go.Proofs.Qxb6603955a.Cv
open Go.RowKit Go.Deep
set_option linter.unusedVariables false

/-- Row r's bytes as values; the bytes of the first k rows behind one another. -/
def rowV (L : Nat → Nat) (X : Nat → Nat → Int) (r : Nat) : List Value := (List.range (L r)).map fun c => .int .u8 (X r c)
def flat (L : Nat → Nat) (X : Nat → Nat → Int) : Nat → List Value
  | 0 => []
  | k + 1 => flat L X k ++ rowV L X k
theorem rowV_length (L : Nat → Nat) (X : Nat → Nat → Int) (r : Nat) : (rowV L X r).length = L r := by simp [rowV]
theorem rowV_at {L : Nat → Nat} {X : Nat → Nat → Int} {r c : Nat} (h : c < L r) : (rowV L X r)[c]? = some (.int .u8 (X r c)) := by simp [rowV, h]
theorem flat_length (L : Nat → Nat) (X : Nat → Nat → Int) (k : Nat) : (flat L X k).length = sumL L k := by
  induction k with
  | zero => rfl
  | succ k ih => simp only [flat, sumL, List.length_append, ih, rowV_length]
theorem flat_at {L : Nat → Nat} {X : Nat → Nat → Int} {k r c : Nat} (hr : r < k) (hc : c < L r) : (flat L X k)[sumL L r + c]? = some (.int .u8 (X r c)) := by
  induction k with
  | zero => omega
  | succ k ih =>
    simp only [flat]
    by_cases e : r = k
    · subst e
      rw [List.getElem?_append_right (by rw [flat_length]; omega), flat_length, Nat.add_sub_cancel_left]
      exact rowV_at hc
    · have := sumL_le L (show r < k by omega)
      rw [List.getElem?_append_left (by rw [flat_length]; omega)]
      exact ih (by omega)

def cpOut (D : Nat → Option Addr) (L : Nat → Nat) (k r : Nat) : Value := if r < k then .slice (D r) (L r) (L r) else .slice none 0 0

/-- How far copyValues has come. -/
structure CpInv (w wr : World) (n k : Nat) (A : Nat → Option Addr) (L : Nat → Nat) (X : Nat → Nat → Int) (D : Nat → Option Addr) : Prop where
  bel : Below w.heap.size w wr
  size : w.heap.size + 2 ≤ wr.heap.size
  own : wr.ownsRow w.heap.size 5 1 (.slice (some ⟨w.heap.size, 0, none⟩) (sumL L k) (sumL L n)) (sumL L k) (flat L X k)
  outer : wr.rowIs (w.heap.size + 1) 25 n (cpOut D L k)
  nil : ∀ r, r < k → (D r).isNone = (A r).isNone
  addr : ∀ r, r < k → 0 < L r → D r = some ⟨w.heap.size, sumL L r, none⟩

theorem CpInv.start (w : World) (n : Nat) (A : Nat → Option Addr) (L : Nat → Nat) (X : Nat → Nat → Int) (ht : sumL L n ≤ 1048576) :
    CpInv w ((w.alloc (.cells (madeCells #[.int .u8 0] (sumL L n)) 5)).alloc (.cells (madeCells #[.slice none 0 0] n) 25)) n 0 A L X (fun _ => none) := by
  refine ⟨((Below.refl _ _).alloc (Nat.le_refl _) _).alloc (by simp) _, by simp, ?_, ?_, fun r hr => by omega, fun r hr => by omega⟩
  · refine ⟨by simp [flat, sumL], .inr ⟨w.heap.size, sumL L n, madeCells #[.int .u8 0] (sumL L n), rfl, Nat.le_refl _, ?_, Nat.zero_le _, by unfold maxLen; omega, by rw [size_madeCells, Nat.mul_one], by simp [flat, sumL]⟩⟩
    rw [blk_alloc_lt _ _ _ (by simp)]
    exact blk_alloc_new _ _
  · have := (World.rowIs_made (w.alloc (.cells (madeCells #[.int .u8 0] (sumL L n)) 5)) (.slice none 0 0) n 25).congr (g := cpOut (fun _ => none) L 0) (fun j _ => by simp [cpOut])
    simpa using this

theorem CpInv.skip {w wr : World} {n k : Nat} {A : Nat → Option Addr} {L : Nat → Nat} {X : Nat → Nat → Int} {D : Nat → Option Addr} (h : CpInv w wr n k A L X D) (hA : A k = none) (hL : L k = 0) :
    CpInv w wr n (k + 1) A L X (fun r => if r = k then none else D r) := by
  refine ⟨h.bel, h.size, ?_, h.outer.congr (fun j _ => ?_), fun r hr => ?_, fun r hr hp => ?_⟩
  · have e1 : sumL L (k + 1) = sumL L k := by simp only [sumL]; omega
    have e2 : flat L X (k + 1) = flat L X k := by simp [flat, rowV, hL]
    rw [e1, e2]; exact h.own
  · unfold cpOut
    by_cases e : j = k
    · subst e; simp [hL]
    · by_cases e2 : j < k
      · rw [if_pos e2, if_pos (by omega)]; simp [e]
      · rw [if_neg e2, if_neg (by omega)]
  · show (if r = k then none else D r).isNone = _
    by_cases e : r = k
    · subst e; simp [hA]
    · rw [if_neg e]; exact h.nil r (by omega)
  · show (if r = k then none else D r) = _
    by_cases e : r = k
    · subst e; omega
    · rw [if_neg e]; exact h.addr r (by omega) hp

theorem CpInv.add {w wr w2 : World} {n k : Nat} {A : Nat → Option Addr} {L : Nat → Nat} {X : Nat → Nat → Int} {D : Nat → Option Addr} {x : Option Addr} (h : CpInv w wr n k A L X D) (hA : (A k).isSome = true) (hxs : x.isNone = false)
    (hx : 0 < L k → x = some ⟨w.heap.size, sumL L k, none⟩)
    (hown : w2.ownsRow w.heap.size 5 1 (.slice (some ⟨w.heap.size, 0, none⟩) (sumL L k + L k) (sumL L n)) (sumL L k + L k) (flat L X k ++ rowV L X k)) (hg : wr.grownBy w2 (some w.heap.size)) :
    CpInv w (w2.setCell ⟨w.heap.size + 1, k, none⟩ (.slice x (L k) (L k))) n (k + 1) A L X (fun r => if r = k then x else D r) := by
  have hs := h.size
  refine ⟨?_, ?_, ?_, ?_, fun r hr => ?_, fun r hr hp => ?_⟩
  · exact (h.bel.grown hg (by omega) (fun q hq => by cases hq; exact Nat.le_refl _)).setCell (p := ⟨w.heap.size + 1, k, none⟩) (by simp) _
  · rw [nblk_setCell]; have := hg.size; omega
  · have := hown
    simp only [flat, sumL]
    obtain ⟨h1, h2⟩ := this
    refine ⟨h1, ?_⟩
    rcases h2 with h2 | ⟨g, cap, cur, hv, hgg, hh, r⟩
    · exact .inl h2
    · simp only [Value.slice.injEq, Option.some.injEq, Addr.mk.injEq, and_true, true_and] at hv
      obtain ⟨rfl, rfl⟩ := hv
      exact .inr ⟨_, _, cur, rfl, hgg, by rw [Below.heap_setCell _ _ _ _ (by simp)]; exact hh, r⟩
  · have ho : w2.rowIs (w.heap.size + 1) 25 n (cpOut D L k) := h.outer.of_block (hg.block _ (by omega) (by simp))
    refine (ho.set k _).congr (fun j _ => ?_)
    unfold cpOut
    by_cases e : j = k
    · subst e; simp
    · rw [if_neg e]
      by_cases e2 : j < k
      · rw [if_pos e2, if_pos (by omega)]; simp [e]
      · rw [if_neg e2, if_neg (by omega)]
  · show (if r = k then x else D r).isNone = _
    by_cases e : r = k
    · subst e; rw [if_pos rfl]; rw [hxs]; cases hq : A r with
      | none => rw [hq] at hA; cases hA
      | some _ => rfl
    · rw [if_neg e]; exact h.nil r (by omega)
  · show (if r = k then x else D r) = _
    by_cases e : r = k
    · subst e; rw [if_pos rfl, hx hp]
    · rw [if_neg e]; exact h.addr r (by omega) hp

theorem make0 (t : Nat) (ht : t ≤ 1048576) (w : World) : (Instr.makeSlice 25 (.int .i64 0) (.int .i64 (t : Int))).run Try.prog w = .ok (.slice (some ⟨w.heap.size, 0, none⟩) 0 t) (w.alloc (.cells (madeCells #[.int .u8 0] t) 5)) := by
  obtain ⟨i, hi, hz, hs, hb⟩ := info_parts info5
  have hr := run_make (P := Try.prog) w 25 5 i (.int .u8 0) Try.underlying25 hi hz .i64 .i64 0 t (Int.le_refl _) (by omega) (by rw [hb]; omega) (by omega)
  simp only [Int.toNat_zero, Int.toNat_natCast, hs, Nat.mul_one] at hr
  exact hr

set_option maxHeartbeats 2000000 in
theorem copy17_some (bl ol n cap : Nat) (A : Nat → Option Addr) (L C b o : Nat → Nat) (X : Nat → Nat → Int) (w : World) (hn : n ≤ 1048576) (ht : sumL L n ≤ 1048576) (hC : ∀ j, j < n → L j ≤ C j)
    (h : RowB w bl ol n A L C b o X) (hin : Within 0 w.heap.size bl n L b) (hnil : ∀ j, j < n → A j = none → L j = 0) :
    Calls Try.prog 17 #[.slice (some ⟨bl, ol, none⟩) n cap] w fun e w' => e = .returned (.slice (some ⟨w.heap.size + 1, 0, none⟩) n n) ∧ ∃ D, CpInv w w' n n A L X D := by
  have hmk := fun wx => run_make_row' (P := Try.prog) 22 25 (.slice none 0 0) 24 Try.underlying22 info25 rfl .i64 .i64 n (by omega) (by omega) wx
  have hmk0 := fun wx => make0 (sumL L n) ht wx
  go_enter Try.func17, Try.ntmps17
  go_wp2
  go_loop [3, 12] (fun t i => ∃ k : Nat, k ≤ n ∧ i = .int .i64 k ∧ t = .int .i64 (sumL L k)) (fun _ i => n - (intOf i).toNat)
  case atStart => exact ⟨0, Nat.zero_le _, rfl, rfl⟩
  case round =>
    obtain ⟨k, hk, rfl, rfl⟩ := hrel
    have hsk := sumL_mono L hk
    by_cases hlt : k < n
    · have hck := h.outer k hlt
      have hsk1 := sumL_le L hlt
      go_wp2
      go_round
      case rel => exact ⟨k + 1, by omega, by go_num, by simp only [sumL]; go_num⟩
      case measure => simp [intOf]; omega
    · obtain rfl : k = n := by omega
      go_wp2
      go_loopw [6, 28] (fun v i wr => ∃ (m : Nat) (D : Nat → Option Addr), m ≤ k ∧ i = .int .i64 m ∧ v = .slice (some ⟨w.heap.size, 0, none⟩) (sumL L m) (sumL L k) ∧ CpInv w wr k m A L X D) (fun _ i _ => k - (intOf i).toNat)
      case atStart => exact ⟨0, fun _ => none, Nat.zero_le _, rfl, rfl, CpInv.start w k A L X ht⟩
      case round =>
        obtain ⟨m, D, hm, rfl, rfl, hinv⟩ := hrel
        clear hmk hmk0
        by_cases hlt2 : m < k
        · have hck : wr.cell? ⟨bl, ol + m, none⟩ = some (.slice (A m) (L m) (C m)) := (hinv.bel.cell (p := ⟨bl, ol + m, none⟩) hin.outer.2).trans (h.outer m hlt2)
          cases hA : A m with
          | none =>
            have hN := hinv.skip hA (hnil m hlt2 hA)
            have hE : Hid (sumL L (m + 1) = sumL L m) := by show _ = _; simp only [sumL]; rw [hnil m hlt2 hA]; omega
            have hnv := fun wx => run_neq_slice_nil_any (P := Try.prog) wx 25 5 none (L m) (C m) 0 0 Try.underlying25
            rw [hA] at hck
            clear hA
            go_wp2
            go_roundw
            case rel => exact ⟨m + 1, _, by omega, by go_num, by rw [hE.out], hN⟩
            case measure => simp [intOf]; omega
          | some x =>
            have hs : (A m).isSome = true := by rw [hA]; rfl
            have hx : 0 < L m → x = ⟨b m, o m, none⟩ := fun hp => by have := h.addr m hlt2 hp; rw [hA] at this; exact Option.some.inj this
            have hnews : ∀ j u, (rowV L X m)[j]? = some u → wr.cell? (x.add j) = some u := fun j u hu => by
              have hj : j < L m := by have := (List.getElem?_eq_some_iff.1 hu).1; rwa [rowV_length] at this
              rw [rowV_at hj] at hu
              cases hu
              rw [hx (by omega), WideShapes.add_plain]
              have h1 := hin.inner m hlt2 (by omega)
              exact (hinv.bel.cell (p := ⟨b m, o m + j, none⟩) h1.2).trans (h.cells m j hlt2 hj)
            rw [hA] at hck
            have hnv := fun wx => run_neq_slice_nil_any (P := Try.prog) wx 25 5 (some x) (L m) (C m) 0 0 Try.underlying25
            have hsl := sumL_le L hlt2
            obtain ⟨i0, hi, hz0, hz1, hz2⟩ := info_parts info5
            have HNEWS : Hid _ := hnews
            have HB : Hid (∀ w2, wr.grownBy w2 (some w.heap.size) → w2.cell? ⟨w.heap.size + 1, m, none⟩ = some (cpOut D L m m)) := fun w2 hg => hg.cell (hinv.outer.cell hlt2) (by simp)
            have HF : Hid (∀ w2, wr.grownBy w2 (some w.heap.size) → w2.frozen? ⟨w.heap.size + 1, m, none⟩ = false) := fun w2 hg => by
              have := hinv.size
              rw [World.frozen?_of_block (w := wr) (hg.block (w.heap.size + 1) (by omega) (by simp))]
              exact hinv.outer.frozen m
            have HX : Hid _ := hx
            clear hA hx hnews
            go_wp2_with (at_builtin; refine wpList_append_fits _ rfl (.tmp 35) (.tmp 36) 25 rfl w.heap.size 5 i0 1 Try.underlying25 hi hz1 w.heap.size (sumL L m) (sumL L k) (flat L X m) rfl hinv.own x (L m) (C m) (rowV L X m) rfl (by rw [rowV_length, Nat.mul_one]) HNEWS.out (fun u hu => by obtain ⟨c, _, rfl⟩ := List.mem_map.1 hu; rfl) hsl ?_; intro w2 hown2 hg2; have hoc2 : w2.cell? ⟨w.heap.size + 1, m, none⟩ = some (cpOut D L m m) := HB.out w2 hg2; have hof2 : w2.frozen? ⟨w.heap.size + 1, m, none⟩ = false := HF.out w2 hg2)
            go_roundw
            case rel => exact ⟨m + 1, _, by omega, by go_num, rfl, hinv.add hs (by split <;> rfl) (fun hp => if_neg (by omega)) hown2 hg2⟩
            case measure => simp [intOf]; omega
        · obtain rfl : m = k := by omega
          go_wp2
          go_ret
          exact ⟨rfl, D, hinv⟩

theorem copy17_zero (a : Option Addr) (cap : Nat) (w : World) :
    Calls Try.prog 17 #[.slice a 0 cap] w fun e w' => e = .returned (.slice (some ⟨w.heap.size + 1, 0, none⟩) 0 0) ∧ Below w.heap.size w w' := by
  have hmk : ∀ wx, (Instr.makeSlice 22 (.int .i64 0) (.int .i64 0)).run Try.prog wx = .ok (.slice (some ⟨wx.heap.size, 0, none⟩) 0 0) (wx.alloc (.cells (madeCells #[.slice none 0 0] 0) 25)) := fun wx => run_make_row' (P := Try.prog) 22 25 (.slice none 0 0) 24 Try.underlying22 info25 rfl .i64 .i64 0 (by omega) (by omega) wx
  have hmk0 : ∀ wx, (Instr.makeSlice 25 (.int .i64 0) (.int .i64 0)).run Try.prog wx = .ok (.slice (some ⟨wx.heap.size, 0, none⟩) 0 0) (wx.alloc (.cells (madeCells #[.int .u8 0] 0) 5)) := fun wx => make0 0 (by omega) wx
  go_enter Try.func17, Try.ntmps17
  go_wp2
  refine wp_loop_rounds 1 ?_
  rw [rounds_succ]
  go_wp2
  refine wp_loop_rounds 1 ?_
  rw [rounds_succ]
  go_wp2
  go_ret
  exact ⟨rfl, ((Below.refl _ _).alloc (Nat.le_refl _) _).alloc (by simp) _⟩

theorem zz9_some (bl ol n cap : Nat) (A : Nat → Option Addr) (L C b o : Nat → Nat) (X : Nat → Nat → Int) (w : World) (hn : n ≤ 1048576) (ht : sumL L n ≤ 1048576) (hC : ∀ j, j < n → L j ≤ C j)
    (h : RowB w bl ol n A L C b o X) (hin : Within 0 w.heap.size bl n L b) (hnil : ∀ j, j < n → A j = none → L j = 0) :
    Calls Try.prog 9 #[.slice (some ⟨bl, ol, none⟩) n cap] w fun e w' => e = .returned (.slice (some ⟨w.heap.size + 1, 0, none⟩) n n) ∧ ∃ D, CpInv w w' n n A L X D := by
  have h17 := copy17_some bl ol n cap A L C b o X w hn ht hC h hin hnil
  go_enter Try.func9, Try.ntmps9
  go_wp2_with fail
  refine h17.mono ?_
  rintro e w' ⟨rfl, hD⟩
  clear h17
  go_wp2
  go_ret
  exact ⟨rfl, hD⟩

theorem zz9_zero (a : Option Addr) (cap : Nat) (w : World) :
    Calls Try.prog 9 #[.slice a 0 cap] w fun e w' => e = .returned (.slice (some ⟨w.heap.size + 1, 0, none⟩) 0 0) ∧ Below w.heap.size w w' := by
  have h17 := copy17_zero a cap w
  go_enter Try.func9, Try.ntmps9
  go_wp2_with fail
  refine h17.mono ?_
  rintro e w' ⟨rfl, hD⟩
  clear h17
  go_wp2
  go_ret
  exact ⟨rfl, hD⟩

end Go.Proofs.Qxb6603955a.Cv
