import Derived.Test.Qxb6603859aWc
import Derived.Test.Qxb6603859aPc
namespace Go.Proofs.Qxb6603859a
open Go.RowKit Go.Deep Go.Maps
set_option linter.unusedVariables false

abbrev tl (s : ByteArray) : List UInt8 := s.data.toList

theorem ret_bool {a b : Bool} (h : a = b) : Ending.returned (.bool a) = .returned (.bool b) := by rw [h]

theorem less8 (x y : ByteArray) (w : World) (hx : x.size = 48) (hy : y.size = 48) :
    Calls Try.prog 8 #[.string x, .string y] w fun e w' => e = .returned (.bool (lessL (tl x) (tl y))) ∧ w' = w := by
  have hx1 : (16 : Int) ≤ (x.size : Int) := by omega
  have hy1 : (16 : Int) ≤ (y.size : Int) := by omega
  clear hx hy
  by_cases hd : dig (tl x) = dig (tl y)
  · have hc : (!(x.extract 16 x.size).toList == (y.extract 16 y.size).toList) = false := by
      rw [ByteArray.toList_eq, ByteArray.toList_eq, toList_drop, toList_drop]; simpa using hd
    have he : Hid (Op.bytesLess x.toList y.toList = lessL (tl x) (tl y)) := by
      show _ = _
      rw [bless, ByteArray.toList_eq, ByteArray.toList_eq]; unfold lessL; rw [if_pos hd]
    clear hd
    go_enter Try.func8, Try.ntmps8
    go_wp2
    go_ret
    exact ⟨ret_bool he.out, rfl⟩
  · have hc : (!(x.extract 16 x.size).toList == (y.extract 16 y.size).toList) = true := by
      rw [ByteArray.toList_eq, ByteArray.toList_eq, toList_drop, toList_drop]; simpa using hd
    have he : Hid (Op.bytesLess (x.extract 16 x.size).toList (y.extract 16 y.size).toList = lessL (tl x) (tl y)) := by
      show _ = _
      rw [bless, ByteArray.toList_eq, ByteArray.toList_eq, toList_drop, toList_drop]; unfold lessL; rw [if_neg hd]
    clear hd
    go_enter Try.func8, Try.ntmps8
    go_wp2
    go_ret
    exact ⟨ret_bool he.out, rfl⟩

set_option maxHeartbeats 400000 in
theorem bytes7_some (b o n cap : Nat) (S : Nat → ByteArray) (w : World) (hn : n ≤ maxLen)
    (hS : ∀ j, j < n → (S j).size ≤ maxLen) (hc : ∀ j, j < n → w.cell? ⟨b, o + j, none⟩ = some (.string (S j))) :
    Calls Try.prog 7 #[.slice (some ⟨b, o, none⟩) n cap] w fun e w' => RB w (n + sumLen S n ≤ 1048576) e w' := by
  unfold maxLen at hn hS
  go_enter Try.func7, Try.ntmps7
  go_wp2
  all_goals try (go_ret; exact RB.no _ _)
  go_loop [3, 4] (fun t i => ∃ k : Nat, k ≤ n ∧ i = .int .i64 k ∧ t = .int .i64 (n + sumLen S k) ∧ n + sumLen S k ≤ 1048576) (fun _ i => n - (intOf i).toNat)
  case atStart => exact ⟨0, Nat.zero_le _, rfl, by simp [sumLen], by simp [sumLen]; omega⟩
  case round =>
    obtain ⟨k, hk, rfl, rfl, hle⟩ := hrel
    by_cases hlt : k < n
    · have hck := hc k hlt
      have hSk := hS k hlt
      go_wp2
      all_goals try (go_ret; exact RB.no _ _)
      go_round
      case rel => exact ⟨k + 1, by omega, by go_num, by simp only [sumLen]; go_num, by simp only [sumLen]; omega⟩
      case measure => simp [intOf]; omega
    · go_wp2
      go_ret
      obtain rfl : k = n := by omega
      exact RB.yes _ _ hle

theorem bytes7_zero (a : Option Addr) (cap : Nat) (S : Nat → ByteArray) (w : World) :
    Calls Try.prog 7 #[.slice a 0 cap] w fun e w' => RB w (0 + sumLen S 0 ≤ 1048576) e w' := by
  go_enter Try.func7, Try.ntmps7
  go_wp2
  refine wp_loop_rounds 1 ?_
  rw [rounds_succ]
  go_wp2
  go_ret
  exact RB.yes _ _ (by simp [sumLen])

end Go.Proofs.Qxb6603859a
