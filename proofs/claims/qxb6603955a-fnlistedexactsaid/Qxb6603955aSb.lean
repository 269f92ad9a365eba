import Derived.Test.Qxb6603955aSa
namespace Go.Proofs.Qxb6603955a
open Go.RowKit Go.Deep
set_option linter.unusedVariables false

set_option maxHeartbeats 400000 in
theorem bytes12_some (t : ByteArray) (b o n cap : Nat) (S : Nat → ByteArray) (w : World) (ht : t.size ≤ maxLen) (hn : n ≤ maxLen)
    (hS : ∀ j, j < n → (S j).size ≤ maxLen) (hc : ∀ j, j < n → w.cell? ⟨b, o + j, none⟩ = some (.string (S j))) :
    Calls Try.prog 12 #[.slice (some ⟨b, o, none⟩) n cap, .string t] w fun e w' => RB w (n + sumLen S n + t.size ≤ 1048576) e w' := by
  unfold maxLen at ht hn hS
  go_enter Try.func12, Try.ntmps12
  go_wp2
  all_goals try (go_ret; exact RB.no _ _)
  go_loop [5, 6] (fun u i => ∃ k : Nat, k ≤ n ∧ i = .int .i64 k ∧ u = .int .i64 (n + sumLen S k) ∧ n + sumLen S k ≤ 1048576) (fun _ i => n - (intOf i).toNat)
  case atStart => exact ⟨0, Nat.zero_le _, rfl, by simp [sumLen], by simp [sumLen]; omega⟩
  case round =>
    obtain ⟨k, hk, rfl, rfl, hle⟩ := hrel
    by_cases hlt : k < n
    · have hck := hc k hlt
      have hSk := hS k hlt
      go_wp2
      all_goals try (go_ret; exact RB.no _ _)
      go_round
      case rel => exact ⟨k + 1, by omega, by go_num, by simp only [sumLen]; go_num, by simp only [sumLen]; omega⟩
      case measure => simp [intOf]; omega
    · go_wp2
      all_goals try (go_ret; exact RB.no _ _)
      go_ret
      obtain rfl : k = n := by omega
      exact RB.yes _ _ (by omega)

theorem bytes12_zero (t : ByteArray) (a : Option Addr) (cap : Nat) (S : Nat → ByteArray) (w : World) (ht : t.size ≤ maxLen) :
    Calls Try.prog 12 #[.slice a 0 cap, .string t] w fun e w' => RB w (0 + sumLen S 0 + t.size ≤ 1048576) e w' := by
  unfold maxLen at ht
  go_enter Try.func12, Try.ntmps12
  go_wp2
  all_goals try (go_ret; exact RB.no _ _)
  refine wp_loop_rounds 1 ?_
  rw [rounds_succ]
  go_wp2
  all_goals try (go_ret; exact RB.no _ _)
  go_ret
  exact RB.yes _ _ (by simp [sumLen]; omega)

theorem bytes12 (t : ByteArray) (a : Option Addr) (n cap : Nat) (S : Nat → ByteArray) (w : World) (ht : t.size ≤ maxLen) (hn : n ≤ maxLen)
    (hS : ∀ j, j < n → (S j).size ≤ maxLen) (hc : Strs w a n S) :
    Calls Try.prog 12 #[.slice a n cap, .string t] w fun e w' => RB w (n + sumLen S n + t.size ≤ 1048576) e w' := by
  rcases hc with rfl | ⟨b, o, rfl, _, hc⟩
  · exact bytes12_zero t a cap S w ht
  · exact bytes12_some t b o n cap S w ht hn hS hc

set_option maxHeartbeats 800000 in
theorem fit13_some (t : ByteArray) (b o n cap : Nat) (S : Nat → ByteArray) (w : World) (ht : t.size ≤ 1048576) (hn : n ≤ 1048576)
    (hS : ∀ j, j < n → (S j).size ≤ 1048576) (hc : ∀ j, j < n → w.cell? ⟨b, o + j, none⟩ = some (.string (S j))) :
    Calls Try.prog 13 #[.slice (some ⟨b, o, none⟩) n cap, .slice none 0 0, .string t] w fun e w' => RB w True e w' := by
  have h1 : decide ((1048576 : Int) < (n : Int)) = false := by simp; omega
  have h2 : decide ((1048576 : Int) < (t.size : Int)) = false := by simp; omega
  go_enter Try.func13, Try.ntmps13
  go_wp2
  all_goals try (go_ret; exact RB.no _ _)
  go_loop [7, 8] (fun u i => ∃ k m : Nat, k ≤ n ∧ i = .int .i64 k ∧ u = .int .i64 m ∧ m ≤ 1048576) (fun _ i => n - (intOf i).toNat)
  case atStart => exact ⟨0, 16 * n + t.size, Nat.zero_le _, rfl, by simp, by omega⟩
  case round =>
    obtain ⟨k, m, hk, rfl, rfl, hle⟩ := hrel
    by_cases hlt : k < n
    · have hck := hc k hlt
      have hSk := hS k hlt
      go_wp2
      all_goals try (go_ret; exact RB.no _ _)
      go_round
      case rel => exact ⟨k + 1, m + (S k).size, by omega, by go_num, by go_num, by omega⟩
      case measure => simp [intOf]; omega
    · go_wp2
      refine wp_loop_rounds 1 ?_
      rw [rounds_succ]
      go_wp2
      go_ret
      exact RB.yes _ _ trivial

set_option maxHeartbeats 800000 in
theorem fit13_zero (t : ByteArray) (a : Option Addr) (cap : Nat) (w : World) (ht : t.size ≤ 1048576) :
    Calls Try.prog 13 #[.slice a 0 cap, .slice none 0 0, .string t] w fun e w' => RB w True e w' := by
  have h2 : decide ((1048576 : Int) < (t.size : Int)) = false := by simp; omega
  go_enter Try.func13, Try.ntmps13
  go_wp2
  all_goals try (go_ret; exact RB.no _ _)
  refine wp_loop_rounds 1 ?_
  rw [rounds_succ]
  go_wp2
  refine wp_loop_rounds 1 ?_
  rw [rounds_succ]
  go_wp2
  go_ret
  exact RB.yes _ _ trivial

theorem fit13 (t : ByteArray) (a : Option Addr) (n cap : Nat) (S : Nat → ByteArray) (w : World) (ht : t.size ≤ 1048576) (hn : n ≤ 1048576)
    (hS : ∀ j, j < n → (S j).size ≤ 1048576) (hc : Strs w a n S) :
    Calls Try.prog 13 #[.slice a n cap, .slice none 0 0, .string t] w fun e w' => RB w True e w' := by
  rcases hc with rfl | ⟨b, o, rfl, _, hc⟩
  · exact fit13_zero t a cap w ht
  · exact fit13_some t b o n cap S w ht hn hS hc

/-- Does t stand among the first n strings? -/
def hasS (S : Nat → ByteArray) (t : ByteArray) (n : Nat) : Bool := (List.range n).any fun j => (S j).toList == t.toList

theorem hasS_zero (S : Nat → ByteArray) (t : ByteArray) : hasS S t 0 = false := rfl
theorem hasS_iff (S : Nat → ByteArray) (t : ByteArray) (n : Nat) : hasS S t n = true ↔ ∃ j, j < n ∧ ((S j).toList == t.toList) = true := by
  unfold hasS
  rw [List.any_eq_true]
  exact ⟨fun ⟨j, h1, h2⟩ => ⟨j, List.mem_range.1 h1, h2⟩, fun ⟨j, h1, h2⟩ => ⟨j, List.mem_range.2 h1, h2⟩⟩

/-- None of the first k is t. -/
def NoneTo (S : Nat → ByteArray) (t : ByteArray) (k : Nat) : Prop := ∀ j, j < k → ((S j).toList == t.toList) = false
theorem NoneTo.zero (S : Nat → ByteArray) (t : ByteArray) : NoneTo S t 0 := fun j h => by omega
theorem NoneTo.succ {S : Nat → ByteArray} {t : ByteArray} {k : Nat} (h : NoneTo S t k) (hk : ((S k).toList == t.toList) = false) : NoneTo S t (k + 1) := fun j hj => by
  by_cases e : j = k
  · subst e; exact hk
  · exact h j (by omega)
theorem NoneTo.has {S : Nat → ByteArray} {t : ByteArray} {k : Nat} (h : NoneTo S t k) : hasS S t k = false := by
  rw [Bool.eq_false_iff]
  intro h'
  obtain ⟨j, hj, he⟩ := (hasS_iff S t k).1 h'
  rw [h j hj] at he
  cases he

theorem ret_bool {a b : Bool} (h : a = b) : Ending.returned (.bool a) = .returned (.bool b) := by rw [h]

set_option maxHeartbeats 400000 in
theorem listed18_some (t : ByteArray) (b n cap : Nat) (S : Nat → ByteArray) (w : World) (hn : n ≤ 1048576)
    (hc : ∀ j, j < n → w.cell? ⟨b, j, none⟩ = some (.string (S j))) :
    Calls Try.prog 18 #[.slice (some ⟨b, 0, none⟩) n cap, .string t] w fun e w' => e = .returned (.bool (hasS S t n)) ∧ w' = w := by
  go_enter Try.func18, Try.ntmps18
  go_wp2
  go_loop [9] (fun i => ∃ k : Nat, k ≤ n ∧ i = .int .i64 k ∧ NoneTo S t k) (fun i => n - (intOf i).toNat)
  case atStart => exact ⟨0, Nat.zero_le _, rfl, NoneTo.zero _ _⟩
  case round =>
    obtain ⟨k, hk, rfl, hno⟩ := hrel
    by_cases hlt : k < n
    · have hck := hc k hlt
      go_wp2
      · go_ret
        exact ⟨ret_bool ((hasS_iff S t n).2 ⟨k, hlt, by assumption⟩).symm, rfl⟩
      · have hne : ((S k).toList == t.toList) = false := by assumption
        go_round
        case rel => exact ⟨k + 1, by omega, by go_num, hno.succ hne⟩
        case measure => simp [intOf]; omega
    · go_wp2
      go_ret
      obtain rfl : k = n := by omega
      exact ⟨ret_bool hno.has.symm, rfl⟩

theorem listed18_zero (t : ByteArray) (a : Option Addr) (cap : Nat) (S : Nat → ByteArray) (w : World) :
    Calls Try.prog 18 #[.slice a 0 cap, .string t] w fun e w' => e = .returned (.bool (hasS S t 0)) ∧ w' = w := by
  go_enter Try.func18, Try.ntmps18
  go_wp2
  refine wp_loop_rounds 1 ?_
  rw [rounds_succ]
  go_wp2
  go_ret
  exact ⟨rfl, rfl⟩

/-- What the count says. -/
def RC (w : World) (S : Nat → ByteArray) (t : ByteArray) (n : Nat) (e : Ending) (w' : World) : Prop := ∃ q : Nat, e = .returned (.int .i64 q) ∧ w' = w ∧ q ≤ n ∧ decide ((0 : Int) < (q : Int)) = hasS S t n

/-- q of the strings from i on are t, as far as 'some' goes. -/
def CntFrom (S : Nat → ByteArray) (t : ByteArray) (n i q : Nat) : Prop := q + i ≤ n ∧ (0 < q ↔ ∃ j, i ≤ j ∧ j < n ∧ ((S j).toList == t.toList) = true)
theorem CntFrom.start (S : Nat → ByteArray) (t : ByteArray) (n : Nat) : CntFrom S t n n 0 := ⟨by omega, by omega, fun ⟨j, h1, h2, _⟩ => by omega⟩
theorem CntFrom.hit {S : Nat → ByteArray} {t : ByteArray} {n i q : Nat} (h : CntFrom S t n (i + 1) q) (he : ((S i).toList == t.toList) = true) : CntFrom S t n i (q + 1) :=
  ⟨by have := h.1; omega, fun _ => ⟨i, Nat.le_refl _, by have := h.1; omega, he⟩, fun _ => by omega⟩
theorem CntFrom.miss {S : Nat → ByteArray} {t : ByteArray} {n i q : Nat} (h : CntFrom S t n (i + 1) q) (he : ((S i).toList == t.toList) = false) : CntFrom S t n i q :=
  ⟨by have := h.1; omega, fun hq => by obtain ⟨j, h1, h2, h3⟩ := h.2.1 hq; exact ⟨j, by omega, h2, h3⟩, fun ⟨j, h1, h2, h3⟩ => h.2.2 ⟨j, by
    by_cases e : j = i
    · subst e; rw [he] at h3; cases h3
    · omega, h2, h3⟩⟩
theorem CntFrom.done {w : World} {S : Nat → ByteArray} {t : ByteArray} {n q : Nat} (h : CntFrom S t n 0 q) : RC w S t n (.returned (.int .i64 q)) w := by
  refine ⟨q, rfl, rfl, by have := h.1; omega, ?_⟩
  rw [Bool.eq_iff_iff, hasS_iff]
  simp only [decide_eq_true_eq]
  constructor
  · intro hq; obtain ⟨j, _, h2, h3⟩ := h.2.1 (by omega); exact ⟨j, h2, h3⟩
  · rintro ⟨j, h2, h3⟩; have := h.2.2 ⟨j, Nat.zero_le _, h2, h3⟩; omega

set_option maxHeartbeats 400000 in
theorem count16_some (t : ByteArray) (b o n cap : Nat) (S : Nat → ByteArray) (w : World) (hn : n ≤ 1048576)
    (hc : ∀ j, j < n → w.cell? ⟨b, o + j, none⟩ = some (.string (S j))) :
    Calls Try.prog 16 #[.slice (some ⟨b, o, none⟩) n cap, .string t] w fun e w' => RC w S t n e w' := by
  go_enter Try.func16, Try.ntmps16
  go_wp2
  go_loop [5, 6] (fun c i => ∃ k q : Nat, k ≤ n ∧ i = .int .i64 ((k : Int) - 1) ∧ c = .int .i64 q ∧ CntFrom S t n k q) (fun _ i => (intOf i + 1).toNat)
  case atStart => exact ⟨n, 0, Nat.le_refl _, rfl, rfl, CntFrom.start _ _ _⟩
  case round =>
    obtain ⟨k, q, hk, rfl, rfl, hcf⟩ := hrel
    have hq := hcf.1
    by_cases h0 : k = 0
    · subst h0
      go_wp2
      go_ret
      exact CntFrom.done hcf
    · obtain ⟨j, rfl⟩ : ∃ j, k = j + 1 := ⟨k - 1, by omega⟩
      have hck := hc j (by omega)
      have hjn : (j : Int) < (n : Int) := by omega
      have ej : (((j + 1 : Nat) : Int) - 1) = (j : Int) := by omega
      rw [ej]
      go_wp2
      · have he : ((S j).toList == t.toList) = true := by assumption
        go_round
        case rel => exact ⟨j, q + 1, by omega, rfl, by go_num, hcf.hit he⟩
        case measure => simp [intOf]
      · have he : ((S j).toList == t.toList) = false := by assumption
        go_round
        case rel => exact ⟨j, q, by omega, rfl, rfl, hcf.miss he⟩
        case measure => simp [intOf]

theorem count16_zero (t : ByteArray) (a : Option Addr) (cap : Nat) (S : Nat → ByteArray) (w : World) :
    Calls Try.prog 16 #[.slice a 0 cap, .string t] w fun e w' => RC w S t 0 e w' := by
  go_enter Try.func16, Try.ntmps16
  go_wp2
  refine wp_loop_rounds 1 ?_
  rw [rounds_succ]
  go_wp2
  go_ret
  exact CntFrom.done (CntFrom.start S t 0)

theorem count16 (t : ByteArray) (a : Option Addr) (n cap : Nat) (S : Nat → ByteArray) (w : World) (hn : n ≤ 1048576) (hc : Strs w a n S) :
    Calls Try.prog 16 #[.slice a n cap, .string t] w fun e w' => RC w S t n e w' := by
  rcases hc with rfl | ⟨b, o, rfl, _, hc⟩
  · exact count16_zero t a cap S w
  · exact count16_some t b o n cap S w hn hc

end Go.Proofs.Qxb6603955a
