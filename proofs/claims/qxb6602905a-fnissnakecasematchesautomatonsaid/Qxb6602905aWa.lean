import Derived.Test.Qxb6602905aProg
import Derived.WalkKit
import Derived.WalkSpells
import Derived.WalkLawsBesides
import Derived.WalkSmall
import Derived.Deep.QuietTactic
import Derived.BigQuiet
import Derived.Below
namespace Go.Proofs.Qxb6602905a
open Go.RowKit
set_option linter.unusedVariables false

def lowB (c : Nat) : Bool := decide (97 ≤ c ∧ c ≤ 122)
def digB (c : Nat) : Bool := decide (48 ≤ c ∧ c ≤ 57)

/-- One step of the automaton. -/
def step (s c : Nat) : Nat :=
  if s = 0 then (if lowB c then 1 else 3)
  else if s = 1 then (if lowB c || digB c then 1 else if c = 95 then 2 else 3)
  else if s = 2 then (if lowB c || digB c then 1 else 3)
  else 3

theorem ret_bool {a b : Bool} (h : a = b) : Ending.returned (.bool a) = .returned (.bool b) := by rw [h]
theorem ret_int {k : IntKind} {a b : Int} (h : a = b) : Ending.returned (.int k a) = .returned (.int k b) := by rw [h]

theorem low19 (c : Nat) (w : World) : Calls Try.prog 19 #[.int .u8 c] w fun e w' => e = .returned (.bool (lowB c)) ∧ w' = w := by
  by_cases h1 : 97 ≤ c
  · go_enter Try.func19, Try.ntmps19
    go_wp2
    go_ret
    exact ⟨ret_bool (by simp [lowB, h1]; omega), rfl⟩
  · go_enter Try.func19, Try.ntmps19
    go_wp2
    go_ret
    exact ⟨ret_bool (by simp [lowB, h1]), rfl⟩

theorem dig20 (c : Nat) (w : World) : Calls Try.prog 20 #[.int .u8 c] w fun e w' => e = .returned (.bool (digB c)) ∧ w' = w := by
  by_cases h1 : 48 ≤ c
  · go_enter Try.func20, Try.ntmps20
    go_wp2
    go_ret
    exact ⟨ret_bool (by simp [digB, h1]; omega), rfl⟩
  · go_enter Try.func20, Try.ntmps20
    go_wp2
    go_ret
    exact ⟨ret_bool (by simp [digB, h1]), rfl⟩

theorem step_0 (c : Nat) (h : lowB c = true) : step 0 c = 1 := by simp [step, h]
theorem step_0n (c : Nat) (h : lowB c = false) : step 0 c = 3 := by simp [step, h]
theorem step_1 (c : Nat) (h : lowB c = true ∨ digB c = true) : step 1 c = 1 := by simp [step, h]
theorem step_1u (c : Nat) (h1 : lowB c = false) (h2 : digB c = false) (h : c = 95) : step 1 c = 2 := by simp [step, h, h ▸ h1, h ▸ h2]
theorem step_1n (c : Nat) (h1 : lowB c = false) (h2 : digB c = false) (h : c ≠ 95) : step 1 c = 3 := by simp [step, h, h1, h2]
theorem step_2 (c : Nat) (h : lowB c = true ∨ digB c = true) : step 2 c = 1 := by simp [step, h]
theorem step_2n (c : Nat) (h1 : lowB c = false) (h2 : digB c = false) : step 2 c = 3 := by simp [step, h1, h2]
theorem step_3 (c : Nat) : step 3 c = 3 := by simp [step]

set_option maxHeartbeats 1000000 in
theorem step17 (s c : Nat) (w : World) (hs : s ≤ 3) : Calls Try.prog 17 #[.int .i64 s, .int .u8 c] w fun e w' => e = .returned (.int .i64 (step s c)) ∧ w' = w := by
  have hcase : s = 0 ∨ s = 1 ∨ s = 2 ∨ s = 3 := by omega
  clear hs
  rcases hcase with rfl | rfl | rfl | rfl
  · cases hl : lowB c with
    | true =>
      rw [step_0 c hl]
      go_enter Try.func17, Try.ntmps17
      go_wp2_with (go_at_call 19; refine (low19 _ _).mono ?_; rintro e w' ⟨rfl, hw⟩; obtain rfl := hw.symm)
      go_ret
      exact ⟨rfl, rfl⟩
    | false =>
      rw [step_0n c hl]
      go_enter Try.func17, Try.ntmps17
      go_wp2_with (go_at_call 19; refine (low19 _ _).mono ?_; rintro e w' ⟨rfl, hw⟩; obtain rfl := hw.symm)
      go_ret
      exact ⟨rfl, rfl⟩
  · cases hl : lowB c with
    | true =>
      rw [step_1 c (.inl hl)]
      go_enter Try.func17, Try.ntmps17
      go_wp2_with (go_at_call 19; refine (low19 _ _).mono ?_; rintro e w' ⟨rfl, hw⟩; obtain rfl := hw.symm)
      go_ret
      exact ⟨rfl, rfl⟩
    | false =>
      cases hd : digB c with
      | true =>
        rw [step_1 c (.inr hd)]
        go_enter Try.func17, Try.ntmps17
        go_wp2_with (first | (go_at_call 19; refine (low19 _ _).mono ?_; rintro e w' ⟨rfl, hw⟩; obtain rfl := hw.symm) | (go_at_call 20; refine (dig20 _ _).mono ?_; rintro e w' ⟨rfl, hw⟩; obtain rfl := hw.symm))
        go_ret
        exact ⟨rfl, rfl⟩
      | false =>
        by_cases h : c = 95
        · rw [step_1u c hl hd h]
          have hc : ((c : Int) == 95) = true := by rw [h]; rfl
          clear h
          go_enter Try.func17, Try.ntmps17
          go_wp2_with (first | (go_at_call 19; refine (low19 _ _).mono ?_; rintro e w' ⟨rfl, hw⟩; obtain rfl := hw.symm) | (go_at_call 20; refine (dig20 _ _).mono ?_; rintro e w' ⟨rfl, hw⟩; obtain rfl := hw.symm))
          go_ret
          exact ⟨rfl, rfl⟩
        · rw [step_1n c hl hd h]
          have hc : ((c : Int) == 95) = false := by simp; omega
          clear h
          go_enter Try.func17, Try.ntmps17
          go_wp2_with (first | (go_at_call 19; refine (low19 _ _).mono ?_; rintro e w' ⟨rfl, hw⟩; obtain rfl := hw.symm) | (go_at_call 20; refine (dig20 _ _).mono ?_; rintro e w' ⟨rfl, hw⟩; obtain rfl := hw.symm))
          go_ret
          exact ⟨rfl, rfl⟩
  · cases hl : lowB c with
    | true =>
      rw [step_2 c (.inl hl)]
      go_enter Try.func17, Try.ntmps17
      go_wp2_with (go_at_call 19; refine (low19 _ _).mono ?_; rintro e w' ⟨rfl, hw⟩; obtain rfl := hw.symm)
      go_ret
      exact ⟨rfl, rfl⟩
    | false =>
      cases hd : digB c with
      | true =>
        rw [step_2 c (.inr hd)]
        go_enter Try.func17, Try.ntmps17
        go_wp2_with (first | (go_at_call 19; refine (low19 _ _).mono ?_; rintro e w' ⟨rfl, hw⟩; obtain rfl := hw.symm) | (go_at_call 20; refine (dig20 _ _).mono ?_; rintro e w' ⟨rfl, hw⟩; obtain rfl := hw.symm))
        go_ret
        exact ⟨rfl, rfl⟩
      | false =>
        rw [step_2n c hl hd]
        go_enter Try.func17, Try.ntmps17
        go_wp2_with (first | (go_at_call 19; refine (low19 _ _).mono ?_; rintro e w' ⟨rfl, hw⟩; obtain rfl := hw.symm) | (go_at_call 20; refine (dig20 _ _).mono ?_; rintro e w' ⟨rfl, hw⟩; obtain rfl := hw.symm))
        go_ret
        exact ⟨rfl, rfl⟩
  · rw [step_3 c]
    go_enter Try.func17, Try.ntmps17
    go_wp2
    go_ret
    exact ⟨rfl, rfl⟩

/-- Byte i of d; 256 where there is none. -/
def byteAt (d : ByteArray) (i : Nat) : Nat := if h : i < d.size then (d[i]'h).toNat else 256
theorem byteAt_lt {d : ByteArray} {i : Nat} (h : i < d.size) : byteAt d i = (d[i]'h).toNat := by simp [byteAt, h]

/-- The state behind k bytes. -/
def st (d : ByteArray) : Nat → Nat
  | 0 => 0
  | k + 1 => step (st d k) (byteAt d k)

theorem step_le (s c : Nat) : step s c ≤ 3 := by unfold step; (repeat' split) <;> omega
theorem st_le (d : ByteArray) (k : Nat) : st d k ≤ 3 := by
  cases k with
  | zero => simp [st]
  | succ k => exact step_le _ _
theorem st_dead (d : ByteArray) {k n : Nat} (h : st d k = 3) (hk : k ≤ n) : st d n = 3 := by
  induction n with
  | zero => obtain rfl : k = 0 := by omega
            exact h
  | succ n ih =>
    by_cases e : k = n + 1
    · subst e; exact h
    · show step (st d n) _ = 3
      rw [ih (by omega), step_3]

/-- The automaton's answer. -/
def acc (d : ByteArray) : Bool := decide (st d d.size = 1)
theorem acc_dead {d : ByteArray} {k : Nat} (h : st d k = 3) (hk : k ≤ d.size) : acc d = false := by
  simp [acc, st_dead d h hk]

set_option maxHeartbeats 400000 in
theorem auto10 (d : ByteArray) (w : World) (hd : d.size ≤ 1048576) :
    Calls Try.prog 10 #[.string d] w fun e w' => e = .returned (.bool (acc d)) ∧ w' = w := by
  go_enter Try.func10, Try.ntmps10
  go_wp2
  go_loop [3, 4] (fun s i => ∃ k : Nat, k ≤ d.size ∧ i = .int .i64 k ∧ s = .int .i64 (st d k)) (fun _ i => d.size - (intOf i).toNat)
  case atStart => exact ⟨0, Nat.zero_le _, rfl, rfl⟩
  case round =>
    obtain ⟨k, hk, rfl, rfl⟩ := hrel
    by_cases hlt : k < d.size
    · have h17 := step17 (st d k) (d[k]'hlt).toNat w (st_le d k)
      have HS : Hid (step (st d k) (d[k]'hlt).toNat = st d (k + 1)) := by
        show _ = step (st d k) (byteAt d k)
        rw [byteAt_lt hlt]
      go_wp2_with fail
      refine h17.mono ?_
      rintro e w' ⟨rfl, hw⟩
      obtain rfl := hw.symm
      clear h17
      rw [HS.out]
      by_cases h3 : st d (k + 1) = 3
      · have h3' : ((st d (k + 1) : Int) == 3) = true := by rw [h3]; rfl
        have HD : Hid _ := acc_dead h3 hlt
        clear h3
        go_wp2
        go_ret
        exact ⟨ret_bool HD.out.symm, rfl⟩
      · have h3' : ((st d (k + 1) : Int) == 3) = false := by simp; omega
        clear h3
        go_wp2
        go_round
        case rel => exact ⟨k + 1, by omega, by go_num, rfl⟩
        case measure => simp [intOf]; omega
    · go_wp2
      go_ret
      obtain rfl : k = d.size := by omega
      exact ⟨ret_bool (by unfold acc; rw [Bool.eq_iff_iff]; simp; omega), rfl⟩
end Go.Proofs.Qxb6602905a
