import Derived.Test.Qxb6603843aWb
namespace Go.Proofs.Qxb6603843a
open Go.RowKit Go.Deep
set_option linter.unusedVariables false

set_option maxHeartbeats 400000 in
theorem make8_some (id : ByteArray) (b o n cap : Nat) (S : Nat → ByteArray) (w : World) (hn : n ≤ 1048576) (hb : b < w.heap.size)
    (hc : ∀ j, j < n → w.cell? ⟨b, o + j, none⟩ = some (.string (S j))) :
    Calls Try.prog 8 #[.string id, .slice (some ⟨b, o, none⟩) n cap] w fun e w' => e = .returned (.agg #[.string id, .slice (some ⟨w.heap.size + 1, 0, none⟩) n n]) ∧ Below w.heap.size w w' ∧ w'.rowIs (w.heap.size + 1) 33 n (fun j => .string (S j)) := by
  have hmk := fun wx => run_make_row' (P := Try.prog) 25 33 (.string ByteArray.empty) 16 Try.underlying25 Try.info33 rfl .i64 .i64 n (by omega) (by omega) wx
  have hnil := fun wx => run_neq_slice_nil_any (P := Try.prog) wx 22 9 (some ⟨b, o, none⟩) n cap 0 0 Try.underlying22
  go_enter Try.func8, Try.ntmps8
  go_wp2
  go_loopw [6] (fun i wr => ∃ k : Nat, k ≤ n ∧ i = .int .i64 k ∧ Below w.heap.size w wr ∧ wr.heap[w.heap.size]? = some (.cells #[.string ByteArray.empty, .slice none 0 0] 27 (0, 0)) ∧ wr.rowIs (w.heap.size + 1) 33 n (fillTo S k)) (fun i _ => n - (intOf i).toNat)
  case atStart => exact ⟨0, Nat.zero_le _, rfl, ((Below.refl _ _).alloc (Nat.le_refl _) _).alloc (by simp) _, by rw [blk_alloc_lt _ _ _ (by simp)]; exact blk_alloc_new _ _, by have := (World.rowIs_made (w.alloc (.cells #[.string { data := #[] }, .slice none 0 0] 27)) (.string ByteArray.empty) n 33).congr (fun j _ => fillTo_zero S j); simpa using this⟩
  case round =>
    obtain ⟨k, hk, rfl, hbel, hst, hrow⟩ := hrel
    by_cases hlt : k < n
    · have hck : wr.cell? ⟨b, o + k, none⟩ = some (.string (S k)) := (hbel.cell (p := ⟨b, o + k, none⟩) hb).trans (hc k hlt)
      have hf := hrow.frozen k
      have hcc := hrow.cell hlt
      have HST : Hid _ := hst
      clear hst
      go_wp2
      go_roundw
      case rel => exact ⟨k + 1, by omega, by go_num, hbel.setCell (by simp) _, (blk_setCell_other _ _ _ _ (by simp)).trans HST.out, (hrow.set k _).congr (fun j _ => fillTo_succ S k j)⟩
      case measure => simp [intOf]; omega
    · have c0 : wr.cell? ⟨w.heap.size, 0, none⟩ = some (.string ByteArray.empty) := by simp [World.cell?, hst]
      have c1 : wr.cell? ⟨w.heap.size, 0 + 1, none⟩ = some (.slice none 0 0) := by simp [World.cell?, hst]
      have f0 : wr.frozen? ⟨w.heap.size, 0, none⟩ = false := by simp [World.frozen?, hst]
      have f1 : wr.frozen? ⟨w.heap.size, 0 + 1, none⟩ = false := by simp [World.frozen?, hst]
      have HST : Hid _ := hst
      clear hst
      go_wp2
      obtain rfl : k = n := by omega
      refine bodyPost_ret (v := .agg #[.string id, .slice (some ⟨w.heap.size + 1, 0, none⟩) k k]) (by simp [results, Try.results8, go_sem, c0, c1]) rfl ⟨rfl, (hbel.setCell (Nat.le_refl _) _).setCell (Nat.le_refl _) _, ?_⟩
      exact ((hrow.setOther (by simp) _).setOther (by simp) _).congr (fun j hj => fillTo_full S k j hj)
theorem make8_nil (id : ByteArray) (w : World) :
    Calls Try.prog 8 #[.string id, .slice none 0 0] w fun e w' => e = .returned (.agg #[.string id, .slice none 0 0]) ∧ Below w.heap.size w w' := by
  have hnil := fun wx => run_neq_slice_nil_any (P := Try.prog) wx 22 9 none 0 0 0 0 Try.underlying22
  go_enter Try.func8, Try.ntmps8
  go_wp2
  exact bodyPost_ret (v := .agg #[.string id, .slice none 0 0]) (by simp [results, Try.results8, go_sem]) rfl ⟨rfl, (Below.refl _ _).alloc (Nat.le_refl _) _⟩

theorem make8_empty (id : ByteArray) (x : Addr) (cap : Nat) (w : World) :
    Calls Try.prog 8 #[.string id, .slice (some x) 0 cap] w fun e w' => e = .returned (.agg #[.string id, .slice (some ⟨w.heap.size + 1, 0, none⟩) 0 0]) ∧ Below w.heap.size w w' := by
  have hmk : ∀ wx, (Instr.makeSlice 25 (.int .i64 0) (.int .i64 0)).run Try.prog wx = .ok (.slice (some ⟨wx.heap.size, 0, none⟩) 0 0) (wx.alloc (.cells (madeCells #[.string ByteArray.empty] 0) 33)) := fun wx => run_make_row' (P := Try.prog) 25 33 (.string ByteArray.empty) 16 Try.underlying25 Try.info33 rfl .i64 .i64 0 (by omega) (by omega) wx
  have hnil := fun wx => run_neq_slice_nil_any (P := Try.prog) wx 22 9 (some x) 0 cap 0 0 Try.underlying22
  go_enter Try.func8, Try.ntmps8
  go_wp2
  refine wp_loop_rounds 1 ?_
  rw [rounds_succ]
  go_wp2
  exact bodyPost_ret (v := .agg #[.string id, .slice (some ⟨w.heap.size + 1, 0, none⟩) 0 0]) (by simp [results, Try.results8, go_sem]) rfl ⟨rfl, ((Below.refl _ _).alloc (Nat.le_refl _) _).alloc (by simp) _⟩

theorem make8 (id : ByteArray) (a : Option Addr) (n cap : Nat) (S : Nat → ByteArray) (w : World) (hn : n ≤ 1048576) (h0 : a = none → n = 0 ∧ cap = 0) (hc : Strs w a n S) :
    Calls Try.prog 8 #[.string id, .slice a n cap] w fun e w' => ∃ a', e = .returned (.agg #[.string id, .slice a' n n]) ∧ Below w.heap.size w w' ∧ Own w.heap.size w' a' 33 n S := by
  cases a with
  | none =>
    obtain ⟨rfl, rfl⟩ := h0 rfl
    refine (make8_nil id w).mono ?_
    rintro e w' ⟨rfl, hb⟩
    exact ⟨none, rfl, hb, .inl rfl⟩
  | some x =>
    rcases hc with rfl | ⟨b, o, hx, hb, hc⟩
    · refine (make8_empty id x cap w).mono ?_
      rintro e w' ⟨rfl, hbel⟩
      exact ⟨_, rfl, hbel, .inl rfl⟩
    · cases hx
      refine (make8_some id b o n cap S w hn hb hc).mono ?_
      rintro e w' ⟨rfl, hbel, hrow⟩
      exact ⟨_, rfl, hbel, .inr ⟨_, by omega, rfl, hrow⟩⟩

end Go.Proofs.Qxb6603843a
