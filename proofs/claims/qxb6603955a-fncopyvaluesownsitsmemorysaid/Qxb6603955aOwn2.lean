import Derived.Test.Qxb6603955aOwn
namespace Go.Proofs.Qxb6603955a.fnCopyValuesOwnsItsMemory
open Go.ChangeShapes Go.WideShapes Go.ChangeAt Go.RowKit Go.Deep Cv
set_option linter.unusedVariables false

set_option maxRecDepth 100000 in
set_option maxHeartbeats 4000000 in
theorem walk_nil (w : World) :
    Calls Try.prog 4 #[.slice none 0 0] w fun e w' => e = .returned (.bool true) ∧ Below w.heap.size w w' := by
  have b6 := bytes11_zero none 0 (fun _ => 0) w
  have b7 := fits7_zero none 0 w
  have b8 := clone8_nil w
  have b9 := zz9_zero none 0 w
  go_enter Try.func4, Try.ntmps4
  go_wp2_with fail
  refine b6.mono ?_
  rintro e w' ⟨r, rfl, hw, -⟩
  obtain rfl := hw.symm
  clear b6 hw
  cases r with
  | false =>
    go_wp2_with fail
    go_ret
    exact ⟨rfl, Below.refl _ _⟩
  | true =>
    go_wp2_with fail
    refine b7.mono ?_
    rintro e w' ⟨r, rfl, hw, -⟩
    obtain rfl := hw.symm
    clear b7 hw
    cases r with
    | false =>
      go_wp2_with fail
      go_ret
      exact ⟨rfl, Below.refl _ _⟩
    | true =>
      go_wp2_with fail
      refine b8.mono ?_
      rintro e w' ⟨rfl, hw⟩
      obtain rfl := hw.symm
      clear hw
      go_wp2_with fail
      refine b8.mono ?_
      rintro e w' ⟨rfl, hw⟩
      obtain rfl := hw.symm
      clear b8 hw
      go_wp2_with fail
      refine b9.mono ?_
      rintro e w4 ⟨rfl, hb⟩
      clear b9
      go_wp2_with fail
      refine wp_loop_rounds 1 ?_
      rw [rounds_succ]
      go_wp2_with fail
      refine wp_loop_rounds 1 ?_
      rw [rounds_succ]
      go_wp2_with fail
      refine wp_loop_rounds 1 ?_
      rw [rounds_succ]
      go_wp2_with fail
      refine wp_loop_rounds 1 ?_
      rw [rounds_succ]
      go_wp2_with fail
      refine wp_loop_rounds 1 ?_
      rw [rounds_succ]
      go_wp2_with fail
      refine wp_loop_rounds 1 ?_
      rw [rounds_succ]
      go_wp2_with fail
      go_ret
      exact ⟨rfl, hb⟩

set_option maxRecDepth 100000 in
set_option maxHeartbeats 4000000 in
theorem walk_empty (x : Addr) (cap : Nat) (w : World) :
    Calls Try.prog 4 #[.slice (some x) 0 cap] w fun e w' => e = .returned (.bool true) ∧ Below w.heap.size w w' := by
  have b6 := bytes11_zero (some x) cap (fun _ => 0) w
  have b7 := fits7_zero (some x) cap w
  have b8 := clone8_empty x cap w
  have b8' := fun wx => clone8_empty ⟨w.heap.size, 0, none⟩ 0 wx
  have b9 := fun wx => zz9_zero (some ⟨w.heap.size, 0, none⟩) 0 wx
  go_enter Try.func4, Try.ntmps4
  go_wp2_with fail
  refine b6.mono ?_
  rintro e w' ⟨r, rfl, hw, -⟩
  obtain rfl := hw.symm
  clear b6 hw
  cases r with
  | false =>
    go_wp2_with fail
    go_ret
    exact ⟨rfl, Below.refl _ _⟩
  | true =>
    go_wp2_with fail
    refine b7.mono ?_
    rintro e w' ⟨r, rfl, hw, -⟩
    obtain rfl := hw.symm
    clear b7 hw
    cases r with
    | false =>
      go_wp2_with fail
      go_ret
      exact ⟨rfl, Below.refl _ _⟩
    | true =>
      go_wp2_with fail
      refine b8.mono ?_
      rintro e w1 ⟨rfl, hb1⟩
      clear b8
      have c8 := b8' w1
      clear b8'
      go_wp2_with fail
      refine c8.mono ?_
      rintro e w2 ⟨rfl, hb2⟩
      clear c8
      have c9 := b9 w2
      clear b9
      go_wp2_with fail
      refine c9.mono ?_
      rintro e w4 ⟨rfl, hb⟩
      clear c9
      have hB : Below w.heap.size w w4 := hb1.trans ((hb2.mono hb1.size).trans (hb.mono (Nat.le_trans hb1.size hb2.size)))
      go_wp2_with fail
      refine wp_loop_rounds 1 ?_
      rw [rounds_succ]
      go_wp2_with fail
      refine wp_loop_rounds 1 ?_
      rw [rounds_succ]
      go_wp2_with fail
      refine wp_loop_rounds 1 ?_
      rw [rounds_succ]
      go_wp2_with fail
      refine wp_loop_rounds 1 ?_
      rw [rounds_succ]
      go_wp2_with fail
      refine wp_loop_rounds 1 ?_
      rw [rounds_succ]
      go_wp2_with fail
      refine wp_loop_rounds 1 ?_
      rw [rounds_succ]
      go_wp2_with fail
      go_ret
      exact ⟨rfl, hB⟩

theorem walk (a : Option Addr) (n cap : Nat) (w : World) (h : IsRows w a n cap) :
    Calls Try.prog 4 #[.slice a n cap] w fun e w' => e = .returned (.bool true) ∧ Below w.heap.size w w' := by
  rcases h with ⟨rfl, h0⟩ | ⟨bl, ol, A, L, C, b, o, X, rfl, hn, hL, hr, hin, hnil⟩
  · cases a with
    | none => rw [h0 rfl]; exact walk_nil w
    | some x => exact walk_empty x cap w
  · exact walk_some bl ol n cap A L C b o X w hn hL hr hin hnil

/-! ### The row's step -/
theorem own : ownKnob Try.prog.godebug = none := by kernel_rfl
theorem laidOut : laidOutB Try.prog = true := by kernel_rfl

set_option maxRecDepth 100000 in
theorem lifted (os : Os) (started : os.Started) (H : Type) (enc : TypeId × Value → H) :
    ReturnsInHanded {} Try.checked os 4 .any (Rows.fnCopyValuesOwnsItsMemorySpec.pre6 enc Try.prog Try.f4 Rows.fnCopyValuesOwnsItsMemoryRow.domain false) (Rows.fnCopyValuesOwnsItsMemorySpec.post enc Try.prog Try.f4 false true false false) := by
  refine returnsInHanded_of_change (C := Try.checked) own started (by kernel_rfl) Try.func4
    (ChangeSpec.witness6 (enc := enc) (C := Try.checked) false ⟨#[], #[.slice none 0 0], []⟩ 8 (by kernel_rfl) (by kernel_rfl) (by kernel_rfl) (by kernel_rfl)) ?_
  intro W base args ds gs before hval0 hW hcnd _
  have hval : ∀ (j : Nat) t v, Try.f4.params[j]? = some t → args[j]? = some v → Value.okWide Try.prog W .any base t v := hval0
  have hW' := hW
  obtain ⟨p, q, hA0, hV, rfl, hfz, hnd⟩ := hW
  have hA : DataW.TrodAll enc Try.prog W 0 (fun _ => true) true Try.f4.params.toList args.toList ds p := hA0
  rw [Try.params4] at hA hval
  obtain ⟨v0, vs0, d0, ds0, p0, q0, hargs, rfl, rfl, h0, r0⟩ := trodAll_cons hA
  obtain ⟨rfl, rfl, rfl⟩ := trodAll_nil r0
  obtain rfl : args = #[v0] := by cases args; simp_all
  obtain ⟨rfl, rfl⟩ := trodVars_none hV
  obtain ⟨a0, len0, cap0, rfl⟩ := okWide_slice Try.underlying22 (hval 0 22 v0 rfl rfl)
  have k0 := h0
  have lt0 : ∀ x ∈ p0, x.block < W.heap.size := by obtain ⟨m, hm⟩ := k0; exact DataW.trod_lt m _ _ _ hm
  have w0 : IsRows W a0 len0 cap0 := by
    obtain ⟨fuel, hf⟩ := h0
    exact isRows_of (by simpa [Value.cells] using hf)
  clear hA0 hval0
  refine (walk a0 len0 cap0 W w0).mono fun e W' ⟨he, bel⟩ => ?_
  subst he
  exact ⟨_, rfl, _, _, _, [], _, [], hW', trodAll_mk1 (shut_bool Try.underlying4 _), (trodAll_cons_mk (Below.trod laidOut (by kernel_rfl) (of_decide_eq_true (by kernel_rfl)) k0 bel lt0) trodAll_mk0), rfl, bel.frame _, fun h => by cases h⟩

theorem over : Rows.fnCopyValuesOwnsItsMemoryRow.holds Try.pinned (OpenSpec.ofChange Rows.fnCopyValuesOwnsItsMemorySpec) :=
  OpenClaim.holds_of_wide 4 Try.f4 rfl rfl rfl rfl rfl rfl rfl ⟨rfl, rfl, rfl, rfl, rfl⟩ rfl rfl rfl rfl rfl (by kernel_rfl) Try.func4 (by kernel_rfl)
    (of_decide_eq_true (by kernel_rfl)) (by unfold Func.isWrapper; first | (rw [if_pos (by decide +kernel)]; kernel_rfl) | (rw [if_neg (by decide +kernel)]; exact ⟨rfl, rfl⟩))
    (fun os started H enc _ => lifted os started H enc)

/-- THE STATEMENT. -/
theorem proved : Rows.FnCopyValuesOwnsItsMemorySaid := over

end Go.Proofs.Qxb6603955a.fnCopyValuesOwnsItsMemory
