import Derived.Test.Qxb6603843aProg
import Derived.Test.Qxb6603843aPure
import Derived.WalkKit
import Derived.ProofKit
import Derived.WalkSpells
import Derived.WalkLawsBesides
namespace Go.Proofs.Qxb6603843a
open Go.RowKit
set_option linter.unusedVariables false

/-- A slice of n strings S 0 .. S (n-1): it is empty, wherever it points; or its cells lie in memory. -/
def Strs (w : World) (a : Option Addr) (n : Nat) (S : Nat → ByteArray) : Prop :=
  n = 0 ∨ ∃ b o, a = some ⟨b, o, none⟩ ∧ b < w.heap.size ∧ ∀ j, j < n → w.cell? ⟨b, o + j, none⟩ = some (.string (S j))

theorem Strs.below {w w' : World} {a : Option Addr} {n : Nat} {S : Nat → ByteArray} (h : Strs w a n S) (hb : Below w.heap.size w w') : Strs w' a n S := by
  rcases h with h | ⟨b, o, rfl, hlt, hc⟩
  · exact .inl h
  · exact .inr ⟨b, o, rfl, Nat.lt_of_lt_of_le hlt hb.size, fun j hj => (hb.cell (p := ⟨b, o + j, none⟩) hlt).trans (hc j hj)⟩

/-- WHAT THE WALK IS TOLD OF A SLICE OF STRINGS THAT CAME IN: it is nil; or it leads to a row of 'cap' cells, the strings 'ss' (the first 'len' are its elements). -/
def IsStrs (w : World) (a : Option Addr) (len cap : Nat) (ss : List ByteArray) : Prop :=
  (a = none ∧ len = 0 ∧ cap = 0 ∧ ss = []) ∨
  ∃ x, a = some x ∧ len ≤ cap ∧ cap ≤ maxLen ∧ ss.length = cap ∧ (∀ i, i < ss.length → w.cell? (x.add i) = some (.string (ss.getD i ByteArray.empty))) ∧ ∀ s ∈ ss, s.size ≤ maxLen

theorem IsStrs.len {w : World} {a : Option Addr} {len cap : Nat} {ss : List ByteArray} (h : IsStrs w a len cap ss) : len ≤ maxLen := by
  rcases h with ⟨_, rfl, _⟩ | ⟨_, _, h1, h2, _⟩
  · exact Nat.zero_le _
  · exact Nat.le_trans h1 h2
theorem IsStrs.nil {w : World} {a : Option Addr} {len cap : Nat} {ss : List ByteArray} (h : IsStrs w a len cap ss) : a = none → len = 0 ∧ cap = 0 := by
  rcases h with ⟨_, rfl, rfl, _⟩ | ⟨_, rfl, _⟩
  · exact fun _ => ⟨rfl, rfl⟩
  · intro h; cases h
theorem IsStrs.sizes {w : World} {a : Option Addr} {len cap : Nat} {ss : List ByteArray} (h : IsStrs w a len cap ss) : ∀ j, j < len → ((fun j => ss.getD j ByteArray.empty) j).size ≤ maxLen := by
  rcases h with ⟨_, rfl, rfl, _⟩ | ⟨_, rfl, hl, _, hz, _, hw⟩
  · intro j hj; omega
  · intro j hj
    have hj' : j < ss.length := by omega
    simp only [List.getD, List.getElem?_eq_getElem hj', Option.getD_some]
    exact hw _ (List.getElem_mem hj')
theorem IsStrs.strs {w : World} {a : Option Addr} {len cap : Nat} {ss : List ByteArray} (h : IsStrs w a len cap ss) : Strs w a len (fun j => ss.getD j ByteArray.empty) := by
  rcases h with ⟨_, rfl, rfl, _⟩ | ⟨x, rfl, hl, _, hz, hc, hw⟩
  · exact .inl rfl
  · by_cases h0 : len = 0
    · exact .inl h0
    · obtain ⟨b, o, sp⟩ := x
      have h1 := hc 0 (by omega)
      have hsp : sp = none := by simpa [Addr.add] using World.cell?_spot h1
      subst hsp
      refine .inr ⟨b, o, rfl, ?_, fun j hj => ?_⟩
      · simpa [Addr.add] using World.block_lt_of_cell? w _ h1
      · rw [← Go.WideShapes.add_plain]
        exact hc j (by omega)

/-- What a test of sizes says: it answers a bool, the world is as it was, and where it answers true 'p' holds. -/
def RB (w : World) (p : Prop) (e : Ending) (w' : World) : Prop := ∃ r : Bool, e = .returned (.bool r) ∧ w' = w ∧ (r = true → p)
theorem RB.no (w : World) (p : Prop) : RB w p (.returned (.bool false)) w := ⟨false, rfl, rfl, by simp⟩
theorem RB.yes (w : World) (p : Prop) (h : p) : RB w p (.returned (.bool true)) w := ⟨true, rfl, rfl, fun _ => h⟩

set_option maxHeartbeats 400000 in
theorem bytes5_some (id : ByteArray) (b o n cap : Nat) (S : Nat → ByteArray) (w : World) (hid : id.size ≤ maxLen) (hn : n ≤ maxLen)
    (hS : ∀ j, j < n → (S j).size ≤ maxLen) (hc : ∀ j, j < n → w.cell? ⟨b, o + j, none⟩ = some (.string (S j))) :
    Calls Try.prog 5 #[.string id, .slice (some ⟨b, o, none⟩) n cap] w fun e w' => RB w (id.size + n + sumLen S n ≤ 1048576) e w' := by
  unfold maxLen at hid hn hS
  go_enter Try.func5, Try.ntmps5
  go_wp2
  all_goals try (go_ret; exact RB.no _ _)
  go_loop [5, 6] (fun t i => ∃ k : Nat, k ≤ n ∧ i = .int .i64 k ∧ t = .int .i64 (id.size + n + sumLen S k) ∧ id.size + n + sumLen S k ≤ 1048576) (fun _ i => n - (intOf i).toNat)
  case atStart => exact ⟨0, Nat.zero_le _, rfl, by simp [sumLen], by simp [sumLen]; omega⟩
  case round =>
    obtain ⟨k, hk, rfl, rfl, hle⟩ := hrel
    by_cases hlt : k < n
    · have hck := hc k hlt
      have hSk := hS k hlt
      go_wp2
      all_goals try (go_ret; exact RB.no _ _)
      go_round
      case rel => exact ⟨k + 1, by omega, by go_num, by simp only [sumLen]; go_num, by simp only [sumLen]; omega⟩
      case measure => simp [intOf]; omega
    · go_wp2
      go_ret
      obtain rfl : k = n := by omega
      exact RB.yes _ _ hle

theorem bytes5_zero (id : ByteArray) (a : Option Addr) (cap : Nat) (S : Nat → ByteArray) (w : World) (hid : id.size ≤ maxLen) :
    Calls Try.prog 5 #[.string id, .slice a 0 cap] w fun e w' => RB w (id.size + 0 + sumLen S 0 ≤ 1048576) e w' := by
  unfold maxLen at hid
  go_enter Try.func5, Try.ntmps5
  go_wp2
  all_goals try (go_ret; exact RB.no _ _)
  refine wp_loop_rounds 1 ?_
  rw [rounds_succ]
  go_wp2
  go_ret
  exact RB.yes _ _ (by simp [sumLen]; omega)

theorem bytes5 (id : ByteArray) (a : Option Addr) (n cap : Nat) (S : Nat → ByteArray) (w : World) (hid : id.size ≤ maxLen) (hn : n ≤ maxLen)
    (hS : ∀ j, j < n → (S j).size ≤ maxLen) (hc : Strs w a n S) :
    Calls Try.prog 5 #[.string id, .slice a n cap] w fun e w' => RB w (id.size + n + sumLen S n ≤ 1048576) e w' := by
  rcases hc with rfl | ⟨b, o, rfl, _, hc⟩
  · exact bytes5_zero id a cap S w hid
  · exact bytes5_some id b o n cap S w hid hn hS hc

set_option maxHeartbeats 400000 in
theorem bytes10_some (id : ByteArray) (b o n cap : Nat) (S : Nat → ByteArray) (w : World) (hid : id.size ≤ maxLen) (hn : n ≤ maxLen)
    (hS : ∀ j, j < n → (S j).size ≤ maxLen) (hc : ∀ j, j < n → w.cell? ⟨b, o + j, none⟩ = some (.string (S j))) :
    Calls Try.prog 10 #[.string id, .slice (some ⟨b, o, none⟩) n cap] w fun e w' => RB w (id.size + n + sumLen S n ≤ 1048576) e w' := by
  unfold maxLen at hid hn hS
  go_enter Try.func10, Try.ntmps10
  go_wp2
  all_goals try (go_ret; exact RB.no _ _)
  go_loop [5, 6] (fun t i => ∃ k : Nat, k ≤ n ∧ i = .int .i64 k ∧ t = .int .i64 (id.size + n + sumLen S k) ∧ id.size + n + sumLen S k ≤ 1048576) (fun _ i => n - (intOf i).toNat)
  case atStart => exact ⟨0, Nat.zero_le _, rfl, by simp [sumLen], by simp [sumLen]; omega⟩
  case round =>
    obtain ⟨k, hk, rfl, rfl, hle⟩ := hrel
    by_cases hlt : k < n
    · have hck := hc k hlt
      have hSk := hS k hlt
      go_wp2
      all_goals try (go_ret; exact RB.no _ _)
      go_round
      case rel => exact ⟨k + 1, by omega, by go_num, by simp only [sumLen]; go_num, by simp only [sumLen]; omega⟩
      case measure => simp [intOf]; omega
    · go_wp2
      go_ret
      obtain rfl : k = n := by omega
      exact RB.yes _ _ hle

theorem bytes10_zero (id : ByteArray) (a : Option Addr) (cap : Nat) (S : Nat → ByteArray) (w : World) (hid : id.size ≤ maxLen) :
    Calls Try.prog 10 #[.string id, .slice a 0 cap] w fun e w' => RB w (id.size + 0 + sumLen S 0 ≤ 1048576) e w' := by
  unfold maxLen at hid
  go_enter Try.func10, Try.ntmps10
  go_wp2
  all_goals try (go_ret; exact RB.no _ _)
  refine wp_loop_rounds 1 ?_
  rw [rounds_succ]
  go_wp2
  go_ret
  exact RB.yes _ _ (by simp [sumLen]; omega)

theorem bytes10 (id : ByteArray) (a : Option Addr) (n cap : Nat) (S : Nat → ByteArray) (w : World) (hid : id.size ≤ maxLen) (hn : n ≤ maxLen)
    (hS : ∀ j, j < n → (S j).size ≤ maxLen) (hc : Strs w a n S) :
    Calls Try.prog 10 #[.string id, .slice a n cap] w fun e w' => RB w (id.size + n + sumLen S n ≤ 1048576) e w' := by
  rcases hc with rfl | ⟨b, o, rfl, _, hc⟩
  · exact bytes10_zero id a cap S w hid
  · exact bytes10_some id b o n cap S w hid hn hS hc

set_option maxHeartbeats 400000 in
theorem fits6_some (id : ByteArray) (b o n cap : Nat) (S : Nat → ByteArray) (w : World) (hid : id.size ≤ maxLen) (hn : n ≤ maxLen)
    (hS : ∀ j, j < n → (S j).size ≤ 1048576) (hc : ∀ j, j < n → w.cell? ⟨b, o + j, none⟩ = some (.string (S j))) :
    Calls Try.prog 6 #[.string id, .slice (some ⟨b, o, none⟩) n cap] w fun e w' => RB w True e w' := by
  unfold maxLen at hid hn
  go_enter Try.func6, Try.ntmps6
  go_wp2
  all_goals try (go_ret; exact RB.no _ _)
  go_loop [5, 6] (fun t i => ∃ k m : Nat, k ≤ n ∧ i = .int .i64 k ∧ t = .int .i64 m ∧ m ≤ 1048576) (fun _ i => n - (intOf i).toNat)
  case atStart => exact ⟨0, id.size, Nat.zero_le _, rfl, rfl, by omega⟩
  case round =>
    obtain ⟨k, m, hk, rfl, rfl, hle⟩ := hrel
    by_cases hlt : k < n
    · have hck := hc k hlt
      have hSk := hS k hlt
      go_wp2
      all_goals try (go_ret; exact RB.no _ _)
      go_round
      case rel => exact ⟨k + 1, m + (16 + (S k).size), by omega, by go_num, by go_num, by omega⟩
      case measure => simp [intOf]; omega
    · go_wp2
      go_ret
      exact RB.yes _ _ trivial

theorem fits6_zero (id : ByteArray) (a : Option Addr) (cap : Nat) (w : World) (hid : id.size ≤ maxLen) :
    Calls Try.prog 6 #[.string id, .slice a 0 cap] w fun e w' => RB w True e w' := by
  unfold maxLen at hid
  go_enter Try.func6, Try.ntmps6
  go_wp2
  all_goals try (go_ret; exact RB.no _ _)
  refine wp_loop_rounds 1 ?_
  rw [rounds_succ]
  go_wp2
  go_ret
  exact RB.yes _ _ trivial

theorem fits6 (id : ByteArray) (a : Option Addr) (n cap : Nat) (S : Nat → ByteArray) (w : World) (hid : id.size ≤ maxLen) (hn : n ≤ maxLen)
    (hS : ∀ j, j < n → (S j).size ≤ 1048576) (hc : Strs w a n S) :
    Calls Try.prog 6 #[.string id, .slice a n cap] w fun e w' => RB w True e w' := by
  rcases hc with rfl | ⟨b, o, rfl, _, hc⟩
  · exact fits6_zero id a cap w hid
  · exact fits6_some id b o n cap S w hid hn hS hc

end Go.Proofs.Qxb6603843a
