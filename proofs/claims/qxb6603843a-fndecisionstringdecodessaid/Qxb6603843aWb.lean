import Derived.Test.Qxb6603843aWa
import Derived.Deep.OwnRows
namespace Go.Proofs.Qxb6603843a
open Go.RowKit Go.Deep
set_option linter.unusedVariables false

theorem Try.info9 : (Try.prog.info? 9).map (fun i => (i.zero, i.size, i.bytes)) = some (some (.string ByteArray.empty), 1, 16) := by kernel_rfl
theorem Try.info33 : (Try.prog.info? 33).map (fun i => (i.zero, i.size, i.bytes)) = some (some (.string ByteArray.empty), 1, 16) := by kernel_rfl

/-- What the half-filled row holds. -/
def fillTo (S : Nat → ByteArray) (k : Nat) (j : Nat) : Value := if j < k then .string (S j) else .string ByteArray.empty
theorem fillTo_zero (S : Nat → ByteArray) (j : Nat) : Value.string ByteArray.empty = fillTo S 0 j := by simp [fillTo]
theorem fillTo_succ (S : Nat → ByteArray) (k j : Nat) : (if j = k then Value.string (S k) else fillTo S k j) = fillTo S (k + 1) j := by
  unfold fillTo
  by_cases h : j = k
  · subst h; simp
  · by_cases h2 : j < k
    · rw [if_neg h, if_pos h2, if_pos (by omega)]
    · rw [if_neg h, if_neg h2, if_neg (by omega)]
theorem fillTo_full (S : Nat → ByteArray) (k j : Nat) (h : j < k) : fillTo S k j = .string (S j) := by simp [fillTo, h]

set_option maxHeartbeats 400000 in
theorem clone7_some (b o n cap : Nat) (S : Nat → ByteArray) (w : World) (hn : n ≤ 1048576) (hb : b < w.heap.size)
    (hc : ∀ j, j < n → w.cell? ⟨b, o + j, none⟩ = some (.string (S j))) :
    Calls Try.prog 7 #[.slice (some ⟨b, o, none⟩) n cap] w fun e w' => e = .returned (.slice (some ⟨w.heap.size, 0, none⟩) n n) ∧ Below w.heap.size w w' ∧ w'.rowIs w.heap.size 9 n (fun j => .string (S j)) := by
  have hmk := fun wx => run_make_row' (P := Try.prog) 22 9 (.string ByteArray.empty) 16 Try.underlying22 Try.info9 rfl .i64 .i64 n (by omega) (by omega) wx
  have hnil := fun wx => Lib.run_eql_slice_nil (P := Try.prog) wx 22 9 (some ⟨b, o, none⟩) n cap 0 0 Try.underlying22
  go_enter Try.func7, Try.ntmps7
  go_wp2
  go_loopw [4] (fun i wr => ∃ k : Nat, k ≤ n ∧ i = .int .i64 k ∧ Below w.heap.size w wr ∧ wr.rowIs w.heap.size 9 n (fillTo S k)) (fun i _ => n - (intOf i).toNat)
  case atStart => exact ⟨0, Nat.zero_le _, rfl, (Below.refl _ _).alloc (Nat.le_refl _) _, (World.rowIs_made w _ n 9).congr (fun j _ => fillTo_zero S j)⟩
  case round =>
    obtain ⟨k, hk, rfl, hbel, hrow⟩ := hrel
    by_cases hlt : k < n
    · have hck : wr.cell? ⟨b, o + k, none⟩ = some (.string (S k)) := (hbel.cell (p := ⟨b, o + k, none⟩) hb).trans (hc k hlt)
      have hf := hrow.frozen k
      have hcc := hrow.cell hlt
      go_wp2
      go_roundw
      case rel => exact ⟨k + 1, by omega, by go_num, hbel.setCell (Nat.le_refl _) _, (hrow.set k _).congr (fun j _ => fillTo_succ S k j)⟩
      case measure => simp [intOf]; omega
    · go_wp2
      go_ret
      obtain rfl : k = n := by omega
      exact ⟨rfl, hbel, hrow.congr (fun j hj => fillTo_full S k j hj)⟩

theorem clone7_nil (w : World) :
    Calls Try.prog 7 #[.slice none 0 0] w fun e w' => e = .returned (.slice none 0 0) ∧ w' = w := by
  have hnil := fun wx => Lib.run_eql_slice_nil (P := Try.prog) wx 22 9 none 0 0 0 0 Try.underlying22
  go_enter Try.func7, Try.ntmps7
  go_wp2
  go_ret
  exact ⟨rfl, rfl⟩

theorem clone7_empty (x : Addr) (cap : Nat) (w : World) :
    Calls Try.prog 7 #[.slice (some x) 0 cap] w fun e w' => e = .returned (.slice (some ⟨w.heap.size, 0, none⟩) 0 0) ∧ Below w.heap.size w w' := by
  have hmk : ∀ wx, (Instr.makeSlice 22 (.int .i64 0) (.int .i64 0)).run Try.prog wx = .ok (.slice (some ⟨wx.heap.size, 0, none⟩) 0 0) (wx.alloc (.cells (madeCells #[.string ByteArray.empty] 0) 9)) := fun wx => run_make_row' (P := Try.prog) 22 9 (.string ByteArray.empty) 16 Try.underlying22 Try.info9 rfl .i64 .i64 0 (by omega) (by omega) wx
  have hnil := fun wx => Lib.run_eql_slice_nil (P := Try.prog) wx 22 9 (some x) 0 cap 0 0 Try.underlying22
  go_enter Try.func7, Try.ntmps7
  go_wp2
  refine wp_loop_rounds 1 ?_
  rw [rounds_succ]
  go_wp2
  go_ret
  exact ⟨rfl, (Below.refl _ _).alloc (Nat.le_refl _) _⟩

/-- A slice of strings that the call has made: it is empty, or it lies at the head of a row of its own. -/
def Own (B : Nat) (w : World) (a : Option Addr) (e : TypeId) (n : Nat) (S : Nat → ByteArray) : Prop :=
  n = 0 ∨ ∃ g, B ≤ g ∧ a = some ⟨g, 0, none⟩ ∧ w.rowIs g e n (fun j => .string (S j))

theorem Own.strs {B : Nat} {w : World} {a : Option Addr} {e : TypeId} {n : Nat} {S : Nat → ByteArray} (h : Own B w a e n S) : Strs w a n S := by
  rcases h with h | ⟨g, _, rfl, hr⟩
  · exact .inl h
  · exact .inr ⟨g, 0, rfl, hr.lt, fun j hj => by rw [Nat.zero_add]; exact hr.cell hj⟩

theorem clone7 (a : Option Addr) (n cap : Nat) (S : Nat → ByteArray) (w : World) (hn : n ≤ 1048576) (h0 : a = none → n = 0 ∧ cap = 0) (hc : Strs w a n S) :
    Calls Try.prog 7 #[.slice a n cap] w fun e w' => ∃ a', e = .returned (.slice a' n n) ∧ Below w.heap.size w w' ∧ Own w.heap.size w' a' 9 n S ∧ (a' = none → n = 0) := by
  cases a with
  | none =>
    obtain ⟨rfl, rfl⟩ := h0 rfl
    refine (clone7_nil w).mono ?_
    rintro e w' ⟨rfl, rfl⟩
    exact ⟨none, rfl, Below.refl _ _, .inl rfl, fun _ => rfl⟩
  | some x =>
    rcases hc with rfl | ⟨b, o, hx, hb, hc⟩
    · refine (clone7_empty x cap w).mono ?_
      rintro e w' ⟨rfl, hbel⟩
      exact ⟨_, rfl, hbel, .inl rfl, fun _ => rfl⟩
    · cases hx
      refine (clone7_some b o n cap S w hn hb hc).mono ?_
      rintro e w' ⟨rfl, hbel, hrow⟩
      exact ⟨_, rfl, hbel, .inr ⟨_, Nat.le_refl _, rfl, hrow⟩, by simp⟩

end Go.Proofs.Qxb6603843a
