import Derived.Test.Qxb6603955aProg
import Derived.WalkKit
import Derived.ProofKit
import Derived.WalkSpells
import Derived.WalkLawsBesides
import Derived.Deep.OwnRows
namespace Go.Proofs.Qxb6603955a
open Go.RowKit Go.Deep
set_option linter.unusedVariables false

/-- The sum of the first k strings' lengths. -/
def sumLen (S : Nat → ByteArray) : Nat → Nat
  | 0 => 0
  | k + 1 => sumLen S k + (S k).size

theorem sumLen_mono (S : Nat → ByteArray) {k n : Nat} (h : k ≤ n) : sumLen S k ≤ sumLen S n := by
  induction n with
  | zero => have : k = 0 := by omega
            subst this; exact Nat.le_refl _
  | succ n ih =>
    by_cases e : k = n + 1
    · subst e; exact Nat.le_refl _
    · have := ih (by omega)
      simp only [sumLen]; omega

theorem sumLen_le (S : Nat → ByteArray) {k n : Nat} (h : k < n) : (S k).size ≤ sumLen S n := by
  have := sumLen_mono S (show k + 1 ≤ n from h)
  simp only [sumLen] at this; omega


/-- A slice of n strings S 0 .. S (n-1): it is empty, wherever it points; or its cells lie in memory. -/
def Strs (w : World) (a : Option Addr) (n : Nat) (S : Nat → ByteArray) : Prop :=
  n = 0 ∨ ∃ b o, a = some ⟨b, o, none⟩ ∧ b < w.heap.size ∧ ∀ j, j < n → w.cell? ⟨b, o + j, none⟩ = some (.string (S j))

theorem Strs.below {w w' : World} {a : Option Addr} {n : Nat} {S : Nat → ByteArray} (h : Strs w a n S) (hb : Below w.heap.size w w') : Strs w' a n S := by
  rcases h with h | ⟨b, o, rfl, hlt, hc⟩
  · exact .inl h
  · exact .inr ⟨b, o, rfl, Nat.lt_of_lt_of_le hlt hb.size, fun j hj => (hb.cell (p := ⟨b, o + j, none⟩) hlt).trans (hc j hj)⟩

/-- WHAT THE WALK IS TOLD OF A SLICE OF STRINGS THAT CAME IN: it is nil; or it leads to a row of 'cap' cells, the strings 'ss' (the first 'len' are its elements). -/
def IsStrs (w : World) (a : Option Addr) (len cap : Nat) (ss : List ByteArray) : Prop :=
  (a = none ∧ len = 0 ∧ cap = 0 ∧ ss = []) ∨
  ∃ x, a = some x ∧ len ≤ cap ∧ cap ≤ maxLen ∧ ss.length = cap ∧ (∀ i, i < ss.length → w.cell? (x.add i) = some (.string (ss.getD i ByteArray.empty))) ∧ ∀ s ∈ ss, s.size ≤ maxLen

theorem IsStrs.len {w : World} {a : Option Addr} {len cap : Nat} {ss : List ByteArray} (h : IsStrs w a len cap ss) : len ≤ maxLen := by
  rcases h with ⟨_, rfl, _⟩ | ⟨_, _, h1, h2, _⟩
  · exact Nat.zero_le _
  · exact Nat.le_trans h1 h2
theorem IsStrs.nil {w : World} {a : Option Addr} {len cap : Nat} {ss : List ByteArray} (h : IsStrs w a len cap ss) : a = none → len = 0 ∧ cap = 0 := by
  rcases h with ⟨_, rfl, rfl, _⟩ | ⟨_, rfl, _⟩
  · exact fun _ => ⟨rfl, rfl⟩
  · intro h; cases h
theorem IsStrs.sizes {w : World} {a : Option Addr} {len cap : Nat} {ss : List ByteArray} (h : IsStrs w a len cap ss) : ∀ j, j < len → ((fun j => ss.getD j ByteArray.empty) j).size ≤ maxLen := by
  rcases h with ⟨_, rfl, rfl, _⟩ | ⟨_, rfl, hl, _, hz, _, hw⟩
  · intro j hj; omega
  · intro j hj
    have hj' : j < ss.length := by omega
    simp only [List.getD, List.getElem?_eq_getElem hj', Option.getD_some]
    exact hw _ (List.getElem_mem hj')
theorem IsStrs.strs {w : World} {a : Option Addr} {len cap : Nat} {ss : List ByteArray} (h : IsStrs w a len cap ss) : Strs w a len (fun j => ss.getD j ByteArray.empty) := by
  rcases h with ⟨_, rfl, rfl, _⟩ | ⟨x, rfl, hl, _, hz, hc, hw⟩
  · exact .inl rfl
  · by_cases h0 : len = 0
    · exact .inl h0
    · obtain ⟨b, o, sp⟩ := x
      have h1 := hc 0 (by omega)
      have hsp : sp = none := by simpa [Addr.add] using World.cell?_spot h1
      subst hsp
      refine .inr ⟨b, o, rfl, ?_, fun j hj => ?_⟩
      · simpa [Addr.add] using World.block_lt_of_cell? w _ h1
      · rw [← Go.WideShapes.add_plain]
        exact hc j (by omega)

/-- What a test of sizes says: it answers a bool, the world is as it was, and where it answers true 'p' holds. -/
def RB (w : World) (p : Prop) (e : Ending) (w' : World) : Prop := ∃ r : Bool, e = .returned (.bool r) ∧ w' = w ∧ (r = true → p)
theorem RB.no (w : World) (p : Prop) : RB w p (.returned (.bool false)) w := ⟨false, rfl, rfl, by simp⟩
theorem RB.yes (w : World) (p : Prop) (h : p) : RB w p (.returned (.bool true)) w := ⟨true, rfl, rfl, fun _ => h⟩


theorem Try.info9 : (Try.prog.info? 9).map (fun i => (i.zero, i.size, i.bytes)) = some (some (.string ByteArray.empty), 1, 16) := by kernel_rfl
theorem Try.info33 : (Try.prog.info? 33).map (fun i => (i.zero, i.size, i.bytes)) = some (some (.string ByteArray.empty), 1, 16) := by kernel_rfl

/-- What the half-filled row holds. -/
def fillTo (S : Nat → ByteArray) (k : Nat) (j : Nat) : Value := if j < k then .string (S j) else .string ByteArray.empty
theorem fillTo_zero (S : Nat → ByteArray) (j : Nat) : Value.string ByteArray.empty = fillTo S 0 j := by simp [fillTo]
theorem fillTo_succ (S : Nat → ByteArray) (k j : Nat) : (if j = k then Value.string (S k) else fillTo S k j) = fillTo S (k + 1) j := by
  unfold fillTo
  by_cases h : j = k
  · subst h; simp
  · by_cases h2 : j < k
    · rw [if_neg h, if_pos h2, if_pos (by omega)]
    · rw [if_neg h, if_neg h2, if_neg (by omega)]
theorem fillTo_full (S : Nat → ByteArray) (k j : Nat) (h : j < k) : fillTo S k j = .string (S j) := by simp [fillTo, h]

set_option maxHeartbeats 400000 in
theorem clone14_some (b o n cap : Nat) (S : Nat → ByteArray) (w : World) (hn : n ≤ 1048576) (hb : b < w.heap.size)
    (hc : ∀ j, j < n → w.cell? ⟨b, o + j, none⟩ = some (.string (S j))) :
    Calls Try.prog 14 #[.slice (some ⟨b, o, none⟩) n cap] w fun e w' => e = .returned (.slice (some ⟨w.heap.size, 0, none⟩) n n) ∧ Below w.heap.size w w' ∧ w'.rowIs w.heap.size 9 n (fun j => .string (S j)) := by
  have hmk := fun wx => run_make_row' (P := Try.prog) 27 9 (.string ByteArray.empty) 16 Try.underlying27 Try.info9 rfl .i64 .i64 n (by omega) (by omega) wx
  have hnil := fun wx => Lib.run_eql_slice_nil (P := Try.prog) wx 27 9 (some ⟨b, o, none⟩) n cap 0 0 Try.underlying27
  go_enter Try.func14, Try.ntmps14
  go_wp2
  go_loopw [4] (fun i wr => ∃ k : Nat, k ≤ n ∧ i = .int .i64 k ∧ Below w.heap.size w wr ∧ wr.rowIs w.heap.size 9 n (fillTo S k)) (fun i _ => n - (intOf i).toNat)
  case atStart => exact ⟨0, Nat.zero_le _, rfl, (Below.refl _ _).alloc (Nat.le_refl _) _, (World.rowIs_made w _ n 9).congr (fun j _ => fillTo_zero S j)⟩
  case round =>
    obtain ⟨k, hk, rfl, hbel, hrow⟩ := hrel
    by_cases hlt : k < n
    · have hck : wr.cell? ⟨b, o + k, none⟩ = some (.string (S k)) := (hbel.cell (p := ⟨b, o + k, none⟩) hb).trans (hc k hlt)
      have hf := hrow.frozen k
      have hcc := hrow.cell hlt
      go_wp2
      go_roundw
      case rel => exact ⟨k + 1, by omega, by go_num, hbel.setCell (Nat.le_refl _) _, (hrow.set k _).congr (fun j _ => fillTo_succ S k j)⟩
      case measure => simp [intOf]; omega
    · go_wp2
      go_ret
      obtain rfl : k = n := by omega
      exact ⟨rfl, hbel, hrow.congr (fun j hj => fillTo_full S k j hj)⟩

theorem clone14_nil (w : World) :
    Calls Try.prog 14 #[.slice none 0 0] w fun e w' => e = .returned (.slice none 0 0) ∧ w' = w := by
  have hnil := fun wx => Lib.run_eql_slice_nil (P := Try.prog) wx 27 9 none 0 0 0 0 Try.underlying27
  go_enter Try.func14, Try.ntmps14
  go_wp2
  go_ret
  exact ⟨rfl, rfl⟩

theorem clone14_empty (x : Addr) (cap : Nat) (w : World) :
    Calls Try.prog 14 #[.slice (some x) 0 cap] w fun e w' => e = .returned (.slice (some ⟨w.heap.size, 0, none⟩) 0 0) ∧ Below w.heap.size w w' := by
  have hmk : ∀ wx, (Instr.makeSlice 27 (.int .i64 0) (.int .i64 0)).run Try.prog wx = .ok (.slice (some ⟨wx.heap.size, 0, none⟩) 0 0) (wx.alloc (.cells (madeCells #[.string ByteArray.empty] 0) 9)) := fun wx => run_make_row' (P := Try.prog) 27 9 (.string ByteArray.empty) 16 Try.underlying27 Try.info9 rfl .i64 .i64 0 (by omega) (by omega) wx
  have hnil := fun wx => Lib.run_eql_slice_nil (P := Try.prog) wx 27 9 (some x) 0 cap 0 0 Try.underlying27
  go_enter Try.func14, Try.ntmps14
  go_wp2
  refine wp_loop_rounds 1 ?_
  rw [rounds_succ]
  go_wp2
  go_ret
  exact ⟨rfl, (Below.refl _ _).alloc (Nat.le_refl _) _⟩

/-- A slice of strings that the call has made: it is empty, or it lies at the head of a row of its own. -/
def Own (B : Nat) (w : World) (a : Option Addr) (e : TypeId) (n : Nat) (S : Nat → ByteArray) : Prop :=
  n = 0 ∨ ∃ g, B ≤ g ∧ a = some ⟨g, 0, none⟩ ∧ w.rowIs g e n (fun j => .string (S j))

theorem Own.strs {B : Nat} {w : World} {a : Option Addr} {e : TypeId} {n : Nat} {S : Nat → ByteArray} (h : Own B w a e n S) : Strs w a n S := by
  rcases h with h | ⟨g, _, rfl, hr⟩
  · exact .inl h
  · exact .inr ⟨g, 0, rfl, hr.lt, fun j hj => by rw [Nat.zero_add]; exact hr.cell hj⟩

theorem clone14 (a : Option Addr) (n cap : Nat) (S : Nat → ByteArray) (w : World) (hn : n ≤ 1048576) (h0 : a = none → n = 0 ∧ cap = 0) (hc : Strs w a n S) :
    Calls Try.prog 14 #[.slice a n cap] w fun e w' => ∃ a', e = .returned (.slice a' n n) ∧ Below w.heap.size w w' ∧ Own w.heap.size w' a' 9 n S ∧ (a' = none → n = 0) := by
  cases a with
  | none =>
    obtain ⟨rfl, rfl⟩ := h0 rfl
    refine (clone14_nil w).mono ?_
    rintro e w' ⟨rfl, rfl⟩
    exact ⟨none, rfl, Below.refl _ _, .inl rfl, fun _ => rfl⟩
  | some x =>
    rcases hc with rfl | ⟨b, o, hx, hb, hc⟩
    · refine (clone14_empty x cap w).mono ?_
      rintro e w' ⟨rfl, hbel⟩
      exact ⟨_, rfl, hbel, .inl rfl, fun _ => rfl⟩
    · cases hx
      refine (clone14_some b o n cap S w hn hb hc).mono ?_
      rintro e w' ⟨rfl, hbel, hrow⟩
      exact ⟨_, rfl, hbel, .inr ⟨_, Nat.le_refl _, rfl, hrow⟩, by simp⟩


end Go.Proofs.Qxb6603955a
