import Derived.Test.Qxb6603955aProg
import Derived.WalkKit
import Derived.ProofKit
import Derived.WalkSpells
import Derived.WalkLawsBesides
import Derived.WalkSmall
import Derived.Deep.OwnRows
import Derived.Deep.QuietTactic
import Derived.BigQuiet
namespace Go.Proofs.Qxb6603955a.Cv
open Go.RowKit Go.Deep
set_option linter.unusedVariables false

/-- The sum of the first k lengths. -/
def sumL (L : Nat → Nat) : Nat → Nat
  | 0 => 0
  | k + 1 => sumL L k + L k

theorem sumL_mono (L : Nat → Nat) {k n : Nat} (h : k ≤ n) : sumL L k ≤ sumL L n := by
  induction n with
  | zero => have : k = 0 := by omega
            subst this; exact Nat.le_refl _
  | succ n ih =>
    by_cases e : k = n + 1
    · subst e; exact Nat.le_refl _
    · have := ih (by omega)
      simp only [sumL]; omega

theorem sumL_le (L : Nat → Nat) {k n : Nat} (h : k < n) : sumL L k + L k ≤ sumL L n := by
  have := sumL_mono L (show k + 1 ≤ n from h)
  simpa only [sumL] using this

/-- What a test of sizes says: it answers a bool, the world is as it was, and where it answers true 'p' holds. -/
def RB (w : World) (p : Prop) (e : Ending) (w' : World) : Prop := ∃ r : Bool, e = .returned (.bool r) ∧ w' = w ∧ (r = true → p)
theorem RB.no (w : World) (p : Prop) : RB w p (.returned (.bool false)) w := ⟨false, rfl, rfl, by simp⟩
theorem RB.yes (w : World) (p : Prop) (h : p) : RB w p (.returned (.bool true)) w := ⟨true, rfl, rfl, fun _ => h⟩

/-- A row of n slices of bytes: its own cells from (bl, ol) on; slice r has the value '.slice (A r) (L r) (C r)' and, where it is not empty, its bytes X r 0, X r 1 .. lie from (b r, o r) on. -/
structure RowB (w : World) (bl ol n : Nat) (A : Nat → Option Addr) (L C b o : Nat → Nat) (X : Nat → Nat → Int) : Prop where
  outer : ∀ r, r < n → w.cell? ⟨bl, ol + r, none⟩ = some (.slice (A r) (L r) (C r))
  addr : ∀ r, r < n → 0 < L r → A r = some ⟨b r, o r, none⟩
  cells : ∀ r c, r < n → c < L r → w.cell? ⟨b r, o r + c, none⟩ = some (.int .u8 (X r c))

/-- All of a row's memory lies in blocks from lo on and below hi. -/
structure Within (lo hi bl n : Nat) (L b : Nat → Nat) : Prop where
  outer : lo ≤ bl ∧ bl < hi
  inner : ∀ r, r < n → 0 < L r → lo ≤ b r ∧ b r < hi

theorem RowB.keep {w w' : World} {bl ol n : Nat} {A : Nat → Option Addr} {L C b o : Nat → Nat} {X : Nat → Nat → Int} {lo hi : Nat} (h : RowB w bl ol n A L C b o X) (hin : Within lo hi bl n L b)
    (hk : ∀ p : Addr, lo ≤ p.block → p.block < hi → w'.cell? p = w.cell? p) : RowB w' bl ol n A L C b o X := by
  refine ⟨fun r hr => ?_, h.addr, fun r c hr hc => ?_⟩
  · rw [hk ⟨bl, ol + r, none⟩ hin.outer.1 hin.outer.2]; exact h.outer r hr
  · have := hin.inner r hr (by omega)
    rw [hk ⟨b r, o r + c, none⟩ this.1 this.2]; exact h.cells r c hr hc

theorem RowB.below {w w' : World} {bl ol n : Nat} {A : Nat → Option Addr} {L C b o : Nat → Nat} {X : Nat → Nat → Int} {lo hi : Nat} (h : RowB w bl ol n A L C b o X) (hin : Within lo hi bl n L b)
    (hb : Below hi w w') : RowB w' bl ol n A L C b o X := h.keep hin fun p _ hp => hb.cell hp

theorem RowB.drewN {w : World} {bl ol n : Nat} {A : Nat → Option Addr} {L C b o : Nat → Nat} {X : Nat → Nat → Int} (h : RowB w bl ol n A L C b o X) (q : Nat) : RowB (w.drewN q) bl ol n A L C b o X :=
  ⟨h.outer, h.addr, h.cells⟩

set_option maxHeartbeats 400000 in
theorem bytes6_some (bl ol n cap : Nat) (A : Nat → Option Addr) (L C : Nat → Nat) (w : World) (hn : n ≤ maxLen)
    (hL : ∀ j, j < n → L j ≤ maxLen) (hc : ∀ j, j < n → w.cell? ⟨bl, ol + j, none⟩ = some (.slice (A j) (L j) (C j))) :
    Calls Try.prog 6 #[.slice (some ⟨bl, ol, none⟩) n cap] w fun e w' => RB w (n + sumL L n ≤ 1048576) e w' := by
  unfold maxLen at hn hL
  go_enter Try.func6, Try.ntmps6
  go_wp2
  all_goals try (go_ret; exact RB.no _ _)
  go_loop [3, 4] (fun t i => ∃ k : Nat, k ≤ n ∧ i = .int .i64 k ∧ t = .int .i64 (n + sumL L k) ∧ n + sumL L k ≤ 1048576) (fun _ i => n - (intOf i).toNat)
  case atStart => exact ⟨0, Nat.zero_le _, rfl, by simp [sumL], by simp [sumL]; omega⟩
  case round =>
    obtain ⟨k, hk, rfl, rfl, hle⟩ := hrel
    by_cases hlt : k < n
    · have hck := hc k hlt
      have hLk := hL k hlt
      go_wp2
      all_goals try (go_ret; exact RB.no _ _)
      go_round
      case rel => exact ⟨k + 1, by omega, by go_num, by simp only [sumL]; go_num, by simp only [sumL]; omega⟩
      case measure => simp [intOf]; omega
    · go_wp2
      go_ret
      obtain rfl : k = n := by omega
      exact RB.yes _ _ hle

theorem bytes6_zero (a : Option Addr) (cap : Nat) (L : Nat → Nat) (w : World) :
    Calls Try.prog 6 #[.slice a 0 cap] w fun e w' => RB w (0 + sumL L 0 ≤ 1048576) e w' := by
  go_enter Try.func6, Try.ntmps6
  go_wp2
  refine wp_loop_rounds 1 ?_
  rw [rounds_succ]
  go_wp2
  go_ret
  exact RB.yes _ _ (by simp [sumL])

set_option maxHeartbeats 400000 in
theorem bytes11_some (bl ol n cap : Nat) (A : Nat → Option Addr) (L C : Nat → Nat) (w : World) (hn : n ≤ maxLen)
    (hL : ∀ j, j < n → L j ≤ maxLen) (hc : ∀ j, j < n → w.cell? ⟨bl, ol + j, none⟩ = some (.slice (A j) (L j) (C j))) :
    Calls Try.prog 11 #[.slice (some ⟨bl, ol, none⟩) n cap] w fun e w' => RB w (n + sumL L n ≤ 1048576) e w' := by
  unfold maxLen at hn hL
  go_enter Try.func11, Try.ntmps11
  go_wp2
  all_goals try (go_ret; exact RB.no _ _)
  go_loop [3, 4] (fun t i => ∃ k : Nat, k ≤ n ∧ i = .int .i64 k ∧ t = .int .i64 (n + sumL L k) ∧ n + sumL L k ≤ 1048576) (fun _ i => n - (intOf i).toNat)
  case atStart => exact ⟨0, Nat.zero_le _, rfl, by simp [sumL], by simp [sumL]; omega⟩
  case round =>
    obtain ⟨k, hk, rfl, rfl, hle⟩ := hrel
    by_cases hlt : k < n
    · have hck := hc k hlt
      have hLk := hL k hlt
      go_wp2
      all_goals try (go_ret; exact RB.no _ _)
      go_round
      case rel => exact ⟨k + 1, by omega, by go_num, by simp only [sumL]; go_num, by simp only [sumL]; omega⟩
      case measure => simp [intOf]; omega
    · go_wp2
      go_ret
      obtain rfl : k = n := by omega
      exact RB.yes _ _ hle

theorem bytes11_zero (a : Option Addr) (cap : Nat) (L : Nat → Nat) (w : World) :
    Calls Try.prog 11 #[.slice a 0 cap] w fun e w' => RB w (0 + sumL L 0 ≤ 1048576) e w' := by
  go_enter Try.func11, Try.ntmps11
  go_wp2
  refine wp_loop_rounds 1 ?_
  rw [rounds_succ]
  go_wp2
  go_ret
  exact RB.yes _ _ (by simp [sumL])

set_option maxHeartbeats 400000 in
theorem fits7_some (bl ol n cap : Nat) (A : Nat → Option Addr) (L C : Nat → Nat) (w : World) (hn : n ≤ 1048576)
    (hL : ∀ j, j < n → L j ≤ 1048576) (hc : ∀ j, j < n → w.cell? ⟨bl, ol + j, none⟩ = some (.slice (A j) (L j) (C j))) :
    Calls Try.prog 7 #[.slice (some ⟨bl, ol, none⟩) n cap] w fun e w' => RB w True e w' := by
  go_enter Try.func7, Try.ntmps7
  go_wp2
  all_goals try (go_ret; exact RB.no _ _)
  go_loop [3, 4] (fun t i => ∃ k m : Nat, k ≤ n ∧ i = .int .i64 k ∧ t = .int .i64 m ∧ m ≤ 1048576) (fun _ i => n - (intOf i).toNat)
  case atStart => exact ⟨0, 24 * n, Nat.zero_le _, rfl, by simp, by omega⟩
  case round =>
    obtain ⟨k, m, hk, rfl, rfl, hle⟩ := hrel
    by_cases hlt : k < n
    · have hck := hc k hlt
      have hLk := hL k hlt
      go_wp2
      all_goals try (go_ret; exact RB.no _ _)
      go_round
      case rel => exact ⟨k + 1, m + L k, by omega, by go_num, by go_num, by omega⟩
      case measure => simp [intOf]; omega
    · go_wp2
      go_ret
      exact RB.yes _ _ trivial

theorem fits7_zero (a : Option Addr) (cap : Nat) (w : World) :
    Calls Try.prog 7 #[.slice a 0 cap] w fun e w' => RB w True e w' := by
  go_enter Try.func7, Try.ntmps7
  go_wp2
  refine wp_loop_rounds 1 ?_
  rw [rounds_succ]
  go_wp2
  go_ret
  exact RB.yes _ _ trivial

/-- Two slices of the same bytes: 'true'. -/
theorem same10_some (b1 o1 b2 o2 l c1 c2 : Nat) (z : Nat → Int) (w : World) (hl : l ≤ 1048576)
    (h1 : ∀ c, c < l → w.cell? ⟨b1, o1 + c, none⟩ = some (.int .u8 (z c))) (h2 : ∀ c, c < l → w.cell? ⟨b2, o2 + c, none⟩ = some (.int .u8 (z c))) :
    Calls Try.prog 10 #[.slice (some ⟨b1, o1, none⟩) l c1, .slice (some ⟨b2, o2, none⟩) l c2] w fun e w' => e = .returned (.bool true) ∧ ∃ q, w' = w.drewN q := by
  go_enter Try.func10, Try.ntmps10
  go_wp2
  go_loopw [5] (fun i wr => ∃ k : Nat, k ≤ l ∧ i = .int .i64 k ∧ ∃ q, wr = w.drewN q) (fun i _ => l - (intOf i).toNat)
  case atStart => exact ⟨0, Nat.zero_le _, rfl, 0, rfl⟩
  case round =>
    obtain ⟨k, hk, rfl, q, rfl⟩ := hrel
    by_cases hlt : k < l
    · have g1 := h1 k hlt
      have g2 := h2 k hlt
      have hlt' : (k : Int) < (l : Int) := by omega
      go_wp2
      go_quiet (fail)
      go_wp2
      go_roundw
      case rel => exact ⟨k + 1, by omega, by go_num, _, rfl⟩
      case measure => simp [intOf]; omega
    · go_wp2
      go_ret
      exact ⟨rfl, q, rfl⟩

theorem same10_zero (a1 a2 : Option Addr) (c1 c2 : Nat) (w : World) :
    Calls Try.prog 10 #[.slice a1 0 c1, .slice a2 0 c2] w fun e w' => e = .returned (.bool true) ∧ ∃ q, w' = w.drewN q := by
  go_enter Try.func10, Try.ntmps10
  go_wp2
  refine wp_loop_rounds 1 ?_
  rw [rounds_succ]
  go_wp2
  go_ret
  exact ⟨rfl, 0, rfl⟩

theorem same10 (a1 a2 : Option Addr) (b1 o1 b2 o2 l c1 c2 : Nat) (z : Nat → Int) (w : World) (hl : l ≤ 1048576) (e1 : 0 < l → a1 = some ⟨b1, o1, none⟩) (e2 : 0 < l → a2 = some ⟨b2, o2, none⟩)
    (h1 : ∀ c, c < l → w.cell? ⟨b1, o1 + c, none⟩ = some (.int .u8 (z c))) (h2 : ∀ c, c < l → w.cell? ⟨b2, o2 + c, none⟩ = some (.int .u8 (z c))) :
    Calls Try.prog 10 #[.slice a1 l c1, .slice a2 l c2] w fun e w' => e = .returned (.bool true) ∧ ∃ q, w' = w.drewN q := by
  by_cases h : l = 0
  · subst h; exact same10_zero a1 a2 c1 c2 w
  · rw [e1 (by omega), e2 (by omega)]
    exact same10_some b1 o1 b2 o2 l c1 c2 z w hl h1 h2

end Go.Proofs.Qxb6603955a.Cv
