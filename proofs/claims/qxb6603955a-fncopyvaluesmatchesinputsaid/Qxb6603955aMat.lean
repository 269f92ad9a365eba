import Derived.Test.Qxb6603955aRows
import Derived.Test.Qxb6603955aRe
import Derived.Deep.Matrix
import Derived.OpenShut
import Derived.ShutString
import Derived.ChangeOld
import Derived.Below
namespace Go.Proofs.Qxb6603955a.fnCopyValuesMatchesInput
open Go.ChangeShapes Go.WideShapes Go.ChangeAt Go.RowKit Go.Deep Cv
set_option linter.unusedVariables false

theorem cell_heap {w w' : World} (h : w'.heap = w.heap) (p : Addr) : w'.cell? p = w.cell? p := by unfold World.cell?; rw [h]

set_option maxHeartbeats 2000000 in
theorem walk_some (bl ol n cap : Nat) (A : Nat → Option Addr) (L C b o : Nat → Nat) (X : Nat → Nat → Int) (w : World) (hn : n ≤ maxLen) (hL : ∀ j, j < n → L j ≤ maxLen)
    (h : RowB w bl ol n A L C b o X) (hin : Within 0 w.heap.size bl n L b) (hnil : ∀ j, j < n → A j = none → L j = 0) :
    Calls Try.prog 3 #[.slice (some ⟨bl, ol, none⟩) n cap] w fun e w' => e = .returned (.bool true) ∧ Below w.heap.size w w' := by
  have b6 := bytes6_some bl ol n cap A L C w hn hL h.outer
  unfold maxLen at hn hL
  go_enter Try.func3, Try.ntmps3
  go_wp2_with fail
  refine b6.mono ?_
  rintro e w' ⟨r, rfl, hw, hr⟩
  clear b6
  obtain rfl := hw.symm
  cases r with
  | false =>
    go_wp2
    go_ret
    exact ⟨rfl, Below.refl _ _⟩
  | true =>
    have hsum := hr rfl
    clear hr hw
    have hLs : ∀ j, j < n → L j ≤ 1048576 := fun j hj => by have := sumL_le L hj; omega
    have b7 := fits7_some bl ol n cap A L C w (by omega) hLs h.outer
    go_wp2_with fail
    refine b7.mono ?_
    rintro e w' ⟨r, rfl, hw, -⟩
    clear b7
    obtain rfl := hw.symm
    cases r with
    | false =>
      go_wp2
      go_ret
      exact ⟨rfl, Below.refl _ _⟩
    | true =>
      clear hw
      have b8 := clone8_some bl ol n cap A L C b o X w (by omega) hLs h hin hnil
      go_wp2_with fail
      refine b8.mono ?_
      rintro e w3 ⟨rfl, hcl⟩
      clear b8
      have hrow3 := hcl.row hnil
      have hin3 := hcl.within hnil
      have hnil3 : ∀ j, j < n → clAddr w.heap.size A j = none → L j = 0 := fun j hj he => hnil j hj (clAddr_none he)
      have hb3 := hcl.bel
      have b9 := zz9_some w.heap.size 0 n n (clAddr w.heap.size A) L L _ _ X w3 (by omega) (by omega) (fun _ _ => Nat.le_refl _) hrow3 (hin3.mono (Nat.zero_le _) (Nat.le_refl _)) hnil3
      go_wp2_with fail
      refine b9.mono ?_
      rintro e w4 ⟨rfl, D, hcp⟩
      clear b9 hcl
      have hval := hrow3.below hin3 hcp.bel
      have hgot := hcp.row
      have hB : Below w.heap.size w w4 := hb3.trans (hcp.bel.mono hb3.size)
      have hDn : ∀ r, r < n → (D r).isNone = (clAddr w.heap.size A r).isNone := hcp.nil
      have hne := fun wx => Lib.run_eql_slice_nil (P := Try.prog) wx 22 25 (some ⟨w3.heap.size + 1, 0, none⟩) n n 0 0 Try.underlying22
      clear hcp hb3 hrow3 hin3 h hin
      go_wp2_with fail
      go_loopw [4] (fun i wr => ∃ k q : Nat, k ≤ n ∧ i = .int .i64 k ∧ wr = w4.drewN q) (fun i _ => n - (intOf i).toNat)
      case atStart => exact ⟨0, 0, Nat.zero_le _, rfl, rfl⟩
      case round =>
        obtain ⟨k, q, hk, rfl, rfl⟩ := hrel
        clear hne
        by_cases hlt : k < n
        · have hcv := hval.outer k hlt
          have hcg := hgot.outer k hlt
          rw [Nat.zero_add] at hcv hcg
          have hd := hDn k hlt
          have hq1 := fun wx => Lib.run_eql_slice_nil (P := Try.prog) wx 25 5 (D k) (L k) (L k) 0 0 Try.underlying25
          have hq2 := fun wx => Lib.run_eql_slice_nil (P := Try.prog) wx 25 5 (clAddr w.heap.size A k) (L k) (L k) 0 0 Try.underlying25
          have hlt' : (k : Int) < (n : Int) := by omega
          have B10 : Hid (∀ wx : World, wx.heap = w4.heap → Calls Try.prog 10 #[.slice (D k) (L k) (L k), .slice (clAddr w.heap.size A k) (L k) (L k)] wx fun e w' => e = .returned (.bool true) ∧ ∃ q, w' = wx.drewN q) := fun wx hx =>
            same10 _ _ _ _ _ _ (L k) _ _ (X k) _ (hLs k hlt) (hgot.addr k hlt) (hval.addr k hlt) (fun c hc => (cell_heap hx _).trans (hgot.cells k c hlt hc)) (fun c hc => (cell_heap hx _).trans (hval.cells k c hlt hc))
          go_wp2_with fail
          go_quiet (fail)
          go_wp2_with fail
          obtain ⟨w5, hG⟩ : ∃ w5, w5 = (w4.drewN q).drewN nq := ⟨_, rfl⟩
          rw [← hG]
          have hcv5 : w5.cell? ⟨w.heap.size, k, none⟩ = some (.slice (clAddr w.heap.size A k) (L k) (L k)) := by rw [hG]; exact hcv
          have hcg5 : w5.cell? ⟨w3.heap.size + 1, k, none⟩ = some (.slice (D k) (L k) (L k)) := by rw [hG]; exact hcg
          have hh5 : Hid (w5.heap = w4.heap) := by show _ = _; rw [hG]; rfl
          have HG : Hid (w5 = w4.drewN (q + nq)) := by show _ = _; rw [hG, World.drewN_drewN]
          clear hG hcv hcg hq1 hq2 hd
          go_quiet ((go_at_call 10; exact Calls.quiet_of (B10.out _ hh5.out)))
          go_wp2_with fail
          go_roundw
          case rel => exact ⟨k + 1, _, by omega, by go_num, by rw [HG.out, World.drewN_drewN]⟩
          case measure => simp [intOf]; omega
        · go_wp2_with fail
          go_ret
          exact ⟨rfl, below_drewN hB _⟩

set_option maxHeartbeats 1000000 in
theorem walk_nil (w : World) :
    Calls Try.prog 3 #[.slice none 0 0] w fun e w' => e = .returned (.bool true) ∧ Below w.heap.size w w' := by
  have b6 := bytes6_zero none 0 (fun _ => 0) w
  have b7 := fits7_zero none 0 w
  have b8 := clone8_nil w
  have b9 := zz9_zero none 0 w
  go_enter Try.func3, Try.ntmps3
  go_wp2_with fail
  refine b6.mono ?_
  rintro e w' ⟨r, rfl, hw, -⟩
  obtain rfl := hw.symm
  clear b6 hw
  cases r with
  | false =>
    go_wp2_with fail
    go_ret
    exact ⟨rfl, Below.refl _ _⟩
  | true =>
    go_wp2_with fail
    refine b7.mono ?_
    rintro e w' ⟨r, rfl, hw, -⟩
    obtain rfl := hw.symm
    clear b7 hw
    cases r with
    | false =>
      go_wp2_with fail
      go_ret
      exact ⟨rfl, Below.refl _ _⟩
    | true =>
      go_wp2_with fail
      refine b8.mono ?_
      rintro e w' ⟨rfl, hw⟩
      obtain rfl := hw.symm
      clear b8 hw
      go_wp2_with fail
      refine b9.mono ?_
      rintro e w4 ⟨rfl, hb⟩
      clear b9
      have hne := fun wx => Lib.run_eql_slice_nil (P := Try.prog) wx 22 25 (some ⟨w.heap.size + 1, 0, none⟩) 0 0 0 0 Try.underlying22
      go_wp2_with fail
      refine wp_loop_rounds 1 ?_
      rw [rounds_succ]
      go_wp2_with fail
      go_ret
      exact ⟨rfl, hb⟩

set_option maxHeartbeats 1000000 in
theorem walk_empty (x : Addr) (cap : Nat) (w : World) :
    Calls Try.prog 3 #[.slice (some x) 0 cap] w fun e w' => e = .returned (.bool true) ∧ Below w.heap.size w w' := by
  have b6 := bytes6_zero (some x) cap (fun _ => 0) w
  have b7 := fits7_zero (some x) cap w
  have b8 := clone8_empty x cap w
  have b9 := fun wx => zz9_zero (some ⟨w.heap.size, 0, none⟩) 0 wx
  go_enter Try.func3, Try.ntmps3
  go_wp2_with fail
  refine b6.mono ?_
  rintro e w' ⟨r, rfl, hw, -⟩
  obtain rfl := hw.symm
  clear b6 hw
  cases r with
  | false =>
    go_wp2_with fail
    go_ret
    exact ⟨rfl, Below.refl _ _⟩
  | true =>
    go_wp2_with fail
    refine b7.mono ?_
    rintro e w' ⟨r, rfl, hw, -⟩
    obtain rfl := hw.symm
    clear b7 hw
    cases r with
    | false =>
      go_wp2_with fail
      go_ret
      exact ⟨rfl, Below.refl _ _⟩
    | true =>
      go_wp2_with fail
      refine b8.mono ?_
      rintro e w3 ⟨rfl, hb3⟩
      clear b8
      have b9' := b9 w3
      clear b9
      go_wp2_with fail
      refine b9'.mono ?_
      rintro e w4 ⟨rfl, hb⟩
      clear b9'
      have hne := fun wx => Lib.run_eql_slice_nil (P := Try.prog) wx 22 25 (some ⟨w3.heap.size + 1, 0, none⟩) 0 0 0 0 Try.underlying22
      have hB : Below w.heap.size w w4 := hb3.trans (hb.mono hb3.size)
      go_wp2_with fail
      refine wp_loop_rounds 1 ?_
      rw [rounds_succ]
      go_wp2_with fail
      go_ret
      exact ⟨rfl, hB⟩

theorem walk (a : Option Addr) (n cap : Nat) (w : World) (h : IsRows w a n cap) :
    Calls Try.prog 3 #[.slice a n cap] w fun e w' => e = .returned (.bool true) ∧ Below w.heap.size w w' := by
  rcases h with ⟨rfl, h0⟩ | ⟨bl, ol, A, L, C, b, o, X, rfl, hn, hL, hr, hin, hnil⟩
  · cases a with
    | none => rw [h0 rfl]; exact walk_nil w
    | some x => exact walk_empty x cap w
  · exact walk_some bl ol n cap A L C b o X w hn hL hr hin hnil

/-! ### The row's step -/
theorem own : ownKnob Try.prog.godebug = none := by kernel_rfl
theorem laidOut : laidOutB Try.prog = true := by kernel_rfl

set_option maxRecDepth 100000 in
theorem lifted (os : Os) (started : os.Started) (H : Type) (enc : TypeId × Value → H) :
    ReturnsInHanded {} Try.checked os 3 .any (Rows.fnCopyValuesMatchesInputSpec.pre6 enc Try.prog Try.f3 Rows.fnCopyValuesMatchesInputRow.domain false) (Rows.fnCopyValuesMatchesInputSpec.post enc Try.prog Try.f3 false true false false) := by
  refine returnsInHanded_of_change (C := Try.checked) own started (by kernel_rfl) Try.func3
    (ChangeSpec.witness6 (enc := enc) (C := Try.checked) false ⟨#[], #[.slice none 0 0], []⟩ 8 (by kernel_rfl) (by kernel_rfl) (by kernel_rfl) (by kernel_rfl)) ?_
  intro W base args ds gs before hval0 hW hcnd _
  have hval : ∀ (j : Nat) t v, Try.f3.params[j]? = some t → args[j]? = some v → Value.okWide Try.prog W .any base t v := hval0
  have hW' := hW
  obtain ⟨p, q, hA0, hV, rfl, hfz, hnd⟩ := hW
  have hA : DataW.TrodAll enc Try.prog W 0 (fun _ => true) true Try.f3.params.toList args.toList ds p := hA0
  rw [Try.params3] at hA hval
  obtain ⟨v0, vs0, d0, ds0, p0, q0, hargs, rfl, rfl, h0, r0⟩ := trodAll_cons hA
  obtain ⟨rfl, rfl, rfl⟩ := trodAll_nil r0
  obtain rfl : args = #[v0] := by cases args; simp_all
  obtain ⟨rfl, rfl⟩ := trodVars_none hV
  obtain ⟨a0, len0, cap0, rfl⟩ := okWide_slice Try.underlying22 (hval 0 22 v0 rfl rfl)
  have k0 := h0
  have lt0 : ∀ x ∈ p0, x.block < W.heap.size := by obtain ⟨m, hm⟩ := k0; exact DataW.trod_lt m _ _ _ hm
  have w0 : IsRows W a0 len0 cap0 := by
    obtain ⟨fuel, hf⟩ := h0
    exact isRows_of (by simpa [Value.cells] using hf)
  clear hA0 hval0
  refine (walk a0 len0 cap0 W w0).mono fun e W' ⟨he, bel⟩ => ?_
  subst he
  exact ⟨_, rfl, _, _, _, [], _, [], hW', trodAll_mk1 (shut_bool Try.underlying4 _), (trodAll_cons_mk (Below.trod laidOut (by kernel_rfl) (of_decide_eq_true (by kernel_rfl)) k0 bel lt0) trodAll_mk0), rfl, bel.frame _, fun h => by cases h⟩

theorem over : Rows.fnCopyValuesMatchesInputRow.holds Try.pinned (OpenSpec.ofChange Rows.fnCopyValuesMatchesInputSpec) :=
  OpenClaim.holds_of_wide 3 Try.f3 rfl rfl rfl rfl rfl rfl rfl ⟨rfl, rfl, rfl, rfl, rfl⟩ rfl rfl rfl rfl rfl (by kernel_rfl) Try.func3 (by kernel_rfl)
    (of_decide_eq_true (by kernel_rfl)) (by unfold Func.isWrapper; first | (rw [if_pos (by decide +kernel)]; kernel_rfl) | (rw [if_neg (by decide +kernel)]; exact ⟨rfl, rfl⟩))
    (fun os started H enc _ => lifted os started H enc)

/-- THE STATEMENT. -/
theorem proved : Rows.FnCopyValuesMatchesInputSaid := over

end Go.Proofs.Qxb6603955a.fnCopyValuesMatchesInput
