import Derived.Test.Qxb6603843aWd
import Derived.Deep.QuietTactic
import Derived.BigQuiet
namespace Go.Proofs.Qxb6603843a
open Go.RowKit Go.Deep
set_option linter.unusedVariables false

/-- A search: it answers a bool, the world is as it was, and where it answers false 'p' holds. -/
def RF (w : World) (p : Prop) (e : Ending) (w' : World) : Prop := ∃ r : Bool, e = .returned (.bool r) ∧ w' = w ∧ (r = false → p)
theorem RF.yes (w : World) (p : Prop) : RF w p (.returned (.bool true)) w := ⟨true, rfl, rfl, by simp⟩
theorem RF.no (w : World) (p : Prop) (h : p) : RF w p (.returned (.bool false)) w := ⟨false, rfl, rfl, fun _ => h⟩

/-- The byte c stands nowhere in s. -/
def Lacks (s : ByteArray) (c : Nat) : Prop := ∀ (i : Nat) (h : i < s.size), (s[i]'h).toNat ≠ c

def LacksTo (s : ByteArray) (c : Nat) (k : Nat) : Prop := ∀ (i : Nat) (h : i < s.size), i < k → (s[i]'h).toNat ≠ c
theorem LacksTo.zero (s : ByteArray) (c : Nat) : LacksTo s c 0 := fun i _ h => by omega
theorem LacksTo.succ {s : ByteArray} {c k : Nat} (h : LacksTo s c k) (hk : k < s.size) (hne : ((s[k]'hk).toNat : Int) ≠ (c : Int)) : LacksTo s c (k + 1) := fun i hi hl => by
  by_cases e : i = k
  · subst e; intro h'; exact hne (by exact_mod_cast h')
  · exact h i hi (by omega)
theorem LacksTo.all {s : ByteArray} {c k : Nat} (h : LacksTo s c k) (hk : s.size ≤ k) : Lacks s c := fun i hi => h i hi (by omega)

theorem has11 (s : ByteArray) (c : Nat) (w : World) (hs : s.size ≤ 1048576) :
    Calls Try.prog 11 #[.string s, .int .u8 c] w fun e w' => RF w (Lacks s c) e w' := by
  go_enter Try.func11, Try.ntmps11
  go_wp2
  go_loop [5] (fun i => ∃ k : Nat, k ≤ s.size ∧ i = .int .i64 k ∧ LacksTo s c k) (fun i => s.size - (intOf i).toNat)
  case atStart => exact ⟨0, Nat.zero_le _, rfl, LacksTo.zero _ _⟩
  case round =>
    obtain ⟨k, hk, rfl, hl⟩ := hrel
    by_cases hlt : k < s.size
    · go_wp2
      · go_ret
        exact RF.yes _ _
      · have hne : (((s[k]'hlt).toNat : Int) == (c : Int)) = false := by assumption
        go_round
        case rel => exact ⟨k + 1, by omega, by go_num, hl.succ hlt (by simpa using hne)⟩
        case measure => simp [intOf]; omega
    · go_wp2
      go_ret
      exact RF.no _ _ (hl.all (by omega))

theorem eat12 (s wd : ByteArray) (w : World) (hs : s.size ≤ 100000000) (hw : wd.size ≤ s.size) (hm : ∀ (i : Nat) (h : i < wd.size), s[i]'(by omega) = wd[i]'h) :
    Calls Try.prog 12 #[.string s, .int .i64 0, .string wd] w fun e w' => e = .returned (.tuple #[.int .i64 wd.size, .bool true]) ∧ ∃ nq, w' = w.drewN nq := by
  have h1 : decide ((0 : Int) < 0) = false := by decide
  have h2 : decide ((s.size : Int) < 0) = false := by simp
  have h3 : decide ((s.size : Int) < (wd.size : Int)) = false := by simp; omega
  go_enter Try.func12, Try.ntmps12
  go_wp2
  go_loopw [8] (fun i wr => ∃ k : Nat, k ≤ wd.size ∧ i = .int .i64 k ∧ ∃ nq, wr = w.drewN nq) (fun i _ => wd.size - (intOf i).toNat)
  case atStart => exact ⟨0, Nat.zero_le _, rfl, 0, rfl⟩
  case round =>
    obtain ⟨k, hk, rfl, nq, rfl⟩ := hrel
    by_cases hlt : k < wd.size
    · have hlt2 : k < s.size := by omega
      have hmk := hm k hlt
      go_wp2
      go_quiet (fail)
      go_wp2
      go_roundw
      case rel => exact ⟨k + 1, by omega, by go_num, _, rfl⟩
      case measure => simp [intOf]; omega
    · go_wp2
      go_ret2
      exact ⟨rfl, nq, rfl⟩
end Go.Proofs.Qxb6603843a
