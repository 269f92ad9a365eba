import Derived.Test.Qxb6603859aPe
namespace Go.Proofs.Qxb6603859a
open Go.RowKit Go.Deep Go.Maps
set_option linter.unusedVariables false

/-- With no ids the map has no entry. -/
theorem grp_none {S : Nat → ByteArray} {lo bm mm : Nat} {ss : List (List UInt8)} {w : World} {D : DataW Value} {V : List UInt8 → Value} (hG : Grp w lo bm mm D (fun g => (Fof ss g).mergeSort leB) V)
    (hmem : ∀ x, x ∈ ss ↔ ∃ j, j < 0 ∧ (S j).data.toList = x) : Maps.size D = 0 := by
  have hss : ss = [] := List.eq_nil_iff_forall_not_mem.2 fun x hx => by
    obtain ⟨j, hj, _⟩ := (hmem x).1 hx
    omega
  subst hss
  exact grp_size hG (Gs := []) List.nodup_nil (fun g => by simp [Fof])

set_option maxRecDepth 100000 in
set_option maxHeartbeats 4000000 in
theorem imp4_nil (S : Nat → ByteArray) (w : World) :
    Calls Try.prog 4 #[.slice none 0 0] w fun e w' => e = .returned (.bool true) ∧ Below w.heap.size w w' := by
  have b7 := bytes7_zero none 0 S w
  have hnil := fun wx => run_neq_slice_nil_any (P := Try.prog) wx 25 9 none 0 0 0 0 Try.underlying25
  have hmk0 : ∀ wx, (Instr.makeSlice 25 (.int .i64 0) (.int .i64 0)).run Try.prog wx = .ok (.slice (some ⟨wx.heap.size, 0, none⟩) 0 0) (wx.alloc (.cells (madeCells #[.string ByteArray.empty] 0) 9)) := fun wx => make0 0 (by omega) wx
  go_enter Try.func4, Try.ntmps4
  go_wp2_with fail
  refine b7.mono ?_
  rintro e w' ⟨r, rfl, hw, -⟩
  obtain rfl := hw.symm
  clear b7 hw
  cases r with
  | false =>
    go_wp2_with fail
    go_ret
    exact ⟨rfl, Below.refl _ _⟩
  | true =>
    go_wp2_with fail
    refine wp_loop_rounds 1 ?_
    rw [rounds_succ]
    go_wp2_with fail
    refine wp_loop_rounds 1 ?_
    rw [rounds_succ]
    go_wp2_with fail
    refine wp_loop_rounds 1 ?_
    rw [rounds_succ]
    go_wp2_with fail
    obtain ⟨wC, hC⟩ : ∃ wC, wC = w.alloc (.cells (madeCells #[.string ByteArray.empty] 0) 9) := ⟨_, rfl⟩
    rw [← hC]
    have hBC : Below w.heap.size w wC := by rw [hC]; exact (Below.refl _ _).alloc (Nat.le_refl _) _
    clear hC
    refine (zz9_zero none 0 S wC).mono ?_
    rintro e w9 ⟨hB9, lo, bm, ss, mm, D, V, rfl, hbm, hnd, hmem, hG, hlo⟩
    have HSZ : Hid _ := grp_none hG hmem
    have HMEM : Hid _ := hmem
    clear hmem hnil hmk0
    go_wp2_with fail
    refine wp_loop_rounds 1 ?_
    rw [rounds_succ]
    go_wp2_with (at_len; refine wpList_len_own _ rfl _ 28 rfl 9 25 Try.underlying28 tokR bm mm D rfl hG.own ?_)
    go_ret
    exact ⟨ret_bool (by rw [HSZ.out]; simp), hBC.trans (hB9.mono hBC.size)⟩

set_option maxRecDepth 100000 in
set_option maxHeartbeats 4000000 in
theorem imp4_empty (x : Addr) (cap : Nat) (S : Nat → ByteArray) (w : World) :
    Calls Try.prog 4 #[.slice (some x) 0 cap] w fun e w' => e = .returned (.bool true) ∧ Below w.heap.size w w' := by
  have b7 := bytes7_zero (some x) cap S w
  have hnil := fun wx => run_neq_slice_nil_any (P := Try.prog) wx 25 9 (some x) 0 cap 0 0 Try.underlying25
  have hmk0 : ∀ wx, (Instr.makeSlice 25 (.int .i64 0) (.int .i64 0)).run Try.prog wx = .ok (.slice (some ⟨wx.heap.size, 0, none⟩) 0 0) (wx.alloc (.cells (madeCells #[.string ByteArray.empty] 0) 9)) := fun wx => make0 0 (by omega) wx
  go_enter Try.func4, Try.ntmps4
  go_wp2_with fail
  refine b7.mono ?_
  rintro e w' ⟨r, rfl, hw, -⟩
  obtain rfl := hw.symm
  clear b7 hw
  cases r with
  | false =>
    go_wp2_with fail
    go_ret
    exact ⟨rfl, Below.refl _ _⟩
  | true =>
    go_wp2_with fail
    refine wp_loop_rounds 1 ?_
    rw [rounds_succ]
    go_wp2_with fail
    refine wp_loop_rounds 1 ?_
    rw [rounds_succ]
    go_wp2_with fail
    refine wp_loop_rounds 1 ?_
    rw [rounds_succ]
    go_wp2_with fail
    refine wp_loop_rounds 1 ?_
    rw [rounds_succ]
    go_wp2_with fail
    obtain ⟨wC, hC⟩ : ∃ wC, wC = (w.alloc (.cells (madeCells #[.string ByteArray.empty] 0) 9)).alloc (.cells (madeCells #[.string ByteArray.empty] 0) 9) := ⟨_, rfl⟩
    rw [← hC]
    have hBC : Below w.heap.size w wC := by rw [hC]; exact ((Below.refl _ _).alloc (Nat.le_refl _) _).alloc (by simp) _
    clear hC
    refine (zz9_zero (some ⟨w.heap.size, 0, none⟩) 0 S wC).mono ?_
    rintro e w9 ⟨hB9, lo, bm, ss, mm, D, V, rfl, hbm, hnd, hmem, hG, hlo⟩
    have HSZ : Hid _ := grp_none hG hmem
    have HMEM : Hid _ := hmem
    clear hmem hnil hmk0
    go_wp2_with fail
    refine wp_loop_rounds 1 ?_
    rw [rounds_succ]
    go_wp2_with (at_len; refine wpList_len_own _ rfl _ 28 rfl 9 25 Try.underlying28 tokR bm mm D rfl hG.own ?_)
    go_ret
    exact ⟨ret_bool (by rw [HSZ.out]; simp), hBC.trans (hB9.mono hBC.size)⟩

end Go.Proofs.Qxb6603859a
