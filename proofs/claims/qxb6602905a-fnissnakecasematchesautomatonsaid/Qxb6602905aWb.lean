import Derived.Test.Qxb6602905aWa
namespace Go.Proofs.Qxb6602905a
open Go.RowKit
set_option linter.unusedVariables false

theorem acc_empty {d : ByteArray} (h : d.size = 0) : acc d = false := by unfold acc; rw [h]; rfl
theorem acc_first {d : ByteArray} (h : 0 < d.size) (hl : lowB (byteAt d 0) = false) : acc d = false :=
  acc_dead (k := 1) (show step 0 _ = 3 from step_0n _ hl) h
theorem step_95 (s : Nat) : step s 95 ≠ 1 := by unfold step; simp [lowB, digB]; (repeat' split) <;> omega
theorem acc_last {d : ByteArray} (h : 0 < d.size) (hl : byteAt d (d.size - 1) = 95) : acc d = false := by
  have e : st d d.size = step (st d (d.size - 1)) 95 := by
    rw [← hl]
    show st d d.size = st d (d.size - 1 + 1)
    rw [show d.size - 1 + 1 = d.size by omega]
  simp [acc, e, step_95]

/-- Where isSnakeCase stands ahead of byte k: in a run, or just behind an underscore. -/
def At (d : ByteArray) (k : Nat) : Prop := (st d k = 1 ∧ byteAt d (k - 1) ≠ 95) ∨ (st d k = 2 ∧ byteAt d (k - 1) = 95)

theorem At.start {d : ByteArray} (hl : lowB (byteAt d 0) = true) : At d 1 := by
  refine .inl ⟨show step 0 _ = 1 from step_0 _ hl, ?_⟩
  intro h
  rw [show 1 - 1 = 0 from rfl] at h
  rw [h] at hl
  exact absurd hl (by decide)

theorem At.go {d : ByteArray} {k : Nat} (h : At d k) (hc : lowB (byteAt d k) = true ∨ digB (byteAt d k) = true) : At d (k + 1) := by
  refine .inl ⟨?_, ?_⟩
  · show step (st d k) _ = 1
    rcases h with ⟨h, _⟩ | ⟨h, _⟩
    · rw [h]; exact step_1 _ hc
    · rw [h]; exact step_2 _ hc
  · rw [Nat.add_sub_cancel]
    intro h95
    rw [h95] at hc
    exact absurd hc (by decide)

theorem At.under {d : ByteArray} {k : Nat} (h : At d k) (hc : byteAt d k = 95) (hp : byteAt d (k - 1) ≠ 95) : At d (k + 1) := by
  rcases h with ⟨h, _⟩ | ⟨_, h⟩
  · refine .inr ⟨?_, by rw [Nat.add_sub_cancel]; exact hc⟩
    show step (st d k) _ = 2
    rw [h, hc]; rfl
  · exact absurd h hp

theorem At.stop {d : ByteArray} {k : Nat} (h : At d k) (hk : k < d.size) (h1 : lowB (byteAt d k) = false) (h2 : digB (byteAt d k) = false) (h3 : byteAt d k ≠ 95 ∨ byteAt d (k - 1) = 95) : acc d = false := by
  refine acc_dead (k := k + 1) ?_ hk
  show step (st d k) _ = 3
  rcases h with ⟨h, h'⟩ | ⟨h, h'⟩
  · rw [h]; exact step_1n _ h1 h2 (h3.resolve_right h')
  · rw [h]; exact step_2n _ h1 h2

theorem At.done {d : ByteArray} (h : At d d.size) (hl : byteAt d (d.size - 1) ≠ 95) : acc d = true := by
  rcases h with ⟨h, _⟩ | ⟨_, h⟩
  · simp [acc, h]
  · exact absurd h hl

theorem snk16_empty (d : ByteArray) (w : World) (h : d.toList.isEmpty = true) :
    Calls Try.prog 16 #[.string d] w fun e w' => e = .returned (.bool false) ∧ w' = w := by
  go_enter Try.func16, Try.ntmps16
  go_wp2
  go_ret
  exact ⟨rfl, rfl⟩

set_option maxHeartbeats 400000 in
theorem snk16_first (d : ByteArray) (w : World) (hd : d.size ≤ 1048576) (h : d.toList.isEmpty = false) (h0 : 0 < d.size) (hl : ((d[0]'h0).toNat : Int) < 97 ∨ (122 : Int) < ((d[0]'h0).toNat : Int)) :
    Calls Try.prog 16 #[.string d] w fun e w' => e = .returned (.bool false) ∧ w' = w := by
  by_cases h1 : ((d[0]'h0).toNat : Int) < 97
  · clear hl
    go_enter Try.func16, Try.ntmps16
    go_wp2
    go_ret
    exact ⟨rfl, rfl⟩
  · have h2 : (122 : Int) < ((d[0]'h0).toNat : Int) := by omega
    clear hl
    go_enter Try.func16, Try.ntmps16
    go_wp2
    go_ret
    exact ⟨rfl, rfl⟩

set_option maxHeartbeats 400000 in
theorem snk16_last (d : ByteArray) (w : World) (hd : d.size ≤ 1048576) (h : d.toList.isEmpty = false) (h0 : 0 < d.size) (hl1 : (97 : Int) ≤ ((d[0]'h0).toNat : Int)) (hl2 : ((d[0]'h0).toNat : Int) ≤ 122)
    (hn1 : d.size - 1 < d.size) (hlast : (((d[d.size - 1]'hn1).toNat : Int) == 95) = true) :
    Calls Try.prog 16 #[.string d] w fun e w' => e = .returned (.bool false) ∧ w' = w := by
  have hA : decide (((d[0]'h0).toNat : Int) < 97) = false := by simp; omega
  have hB : decide ((122 : Int) < ((d[0]'h0).toNat : Int)) = false := by simp; omega
  have hn2 : (1 : Int) ≤ (d.size : Int) := by omega
  go_enter Try.func16, Try.ntmps16
  go_wp2
  go_ret
  exact ⟨rfl, rfl⟩

set_option maxHeartbeats 2000000 in
theorem snk16_run (d : ByteArray) (w : World) (hd : d.size ≤ 1048576) (h : d.toList.isEmpty = false) (h0 : 0 < d.size) (hl1 : (97 : Int) ≤ ((d[0]'h0).toNat : Int)) (hl2 : ((d[0]'h0).toNat : Int) ≤ 122)
    (hn1 : d.size - 1 < d.size) (hlast : (((d[d.size - 1]'hn1).toNat : Int) == 95) = false) :
    Calls Try.prog 16 #[.string d] w fun e w' => e = .returned (.bool (acc d)) ∧ w' = w := by
  have hA : decide (((d[0]'h0).toNat : Int) < 97) = false := by simp; omega
  have hB : decide ((122 : Int) < ((d[0]'h0).toNat : Int)) = false := by simp; omega
  have hn2 : (1 : Int) ≤ (d.size : Int) := by omega
  have HL : Hid (byteAt d (d.size - 1) ≠ 95) := by show _ ≠ _; rw [byteAt_lt hn1]; simp at hlast; omega
  have HS : Hid (At d 1) := At.start (by rw [byteAt_lt h0]; simp [lowB]; omega)
  go_enter Try.func16, Try.ntmps16
  go_wp2
  go_loop [3] (fun i => ∃ k : Nat, 1 ≤ k ∧ k ≤ d.size ∧ i = .int .i64 k ∧ At d k) (fun i => d.size - (intOf i).toNat)
  case atStart => exact ⟨1, by omega, by omega, rfl, HS.out⟩
  case round =>
    obtain ⟨k, hk1, hk2, rfl, hat⟩ := hrel
    clear hA hB hl1 hl2 hlast HS
    by_cases hlt : k < d.size
    · have hkp : k - 1 < d.size := by omega
      have e1 := byteAt_lt hlt
      have e2 := byteAt_lt hkp
      have E1 : Hid _ := e1
      have E2 : Hid _ := e2
      by_cases hlow : (97 : Int) ≤ ((d[k]'hlt).toNat : Int) ∧ ((d[k]'hlt).toNat : Int) ≤ 122
      · have hN : Hid (At d (k + 1)) := hat.go (.inl (by rw [e1]; simp [lowB]; omega))
        obtain ⟨ha, hb⟩ := hlow
        clear e1 e2
        go_wp2
        go_round
        case rel => exact ⟨k + 1, by omega, by omega, by go_num, hN.out⟩
        case measure => simp [intOf]; omega
      · by_cases hdig : (48 : Int) ≤ ((d[k]'hlt).toNat : Int) ∧ ((d[k]'hlt).toNat : Int) ≤ 57
        · have hN : Hid (At d (k + 1)) := hat.go (.inr (by rw [e1]; simp [digB]; omega))
          obtain ⟨ha, hb⟩ := hdig
          clear e1 e2 hlow
          go_wp2
          go_round
          case rel => exact ⟨k + 1, by omega, by omega, by go_num, hN.out⟩
          case measure => simp [intOf]; omega
        · have L : lowB (byteAt d k) = false := by rw [e1]; simp [lowB]; omega
          have G : digB (byteAt d k) = false := by rw [e1]; simp [digB]; omega
          by_cases h95 : ((d[k]'hlt).toNat : Int) = 95
          · have hc : (((d[k]'hlt).toNat : Int) == 95) = true := by simp [h95]
            have hr1 : ((d[k]'hlt).toNat : Int) < 97 := by omega
            have hr2 : (57 : Int) < ((d[k]'hlt).toNat : Int) := by omega
            by_cases hp : byteAt d (k - 1) = 95
            · have hq : (((d[k - 1]'hkp).toNat : Int) != 95) = false := by rw [e2] at hp; simp; omega
              have HD : Hid _ := hat.stop hlt L G (.inr hp)
              clear e1 e2 hlow hdig h95 hp L G
              go_wp2
              go_ret
              exact ⟨ret_bool HD.out.symm, rfl⟩
            · have hq : (((d[k - 1]'hkp).toNat : Int) != 95) = true := by rw [e2] at hp; simp; omega
              have HN : Hid _ := hat.under (by rw [e1]; omega) hp
              clear e1 e2 hlow hdig h95 hp L G
              go_wp2
              go_round
              case rel => exact ⟨k + 1, by omega, by omega, by go_num, HN.out⟩
              case measure => simp [intOf]; omega
          · have hc : (((d[k]'hlt).toNat : Int) == 95) = false := by simpa using h95
            have HD : Hid _ := hat.stop hlt L G (.inl (by rw [e1]; omega))
            have hr : ((d[k]'hlt).toNat : Int) < 48 ∨ ((57 : Int) < ((d[k]'hlt).toNat : Int) ∧ ((d[k]'hlt).toNat : Int) < 97) ∨ (122 : Int) < ((d[k]'hlt).toNat : Int) := by omega
            clear e1 e2 hlow hdig h95 L G
            rcases hr with hr | ⟨hr, hr'⟩ | hr
            all_goals
              go_wp2
              go_ret
              exact ⟨ret_bool HD.out.symm, rfl⟩
    · obtain rfl : k = d.size := by omega
      go_wp2
      go_ret
      exact ⟨ret_bool (hat.done HL.out).symm, rfl⟩

theorem snk16 (d : ByteArray) (w : World) (hd : d.size ≤ 1048576) :
    Calls Try.prog 16 #[.string d] w fun e w' => e = .returned (.bool (acc d)) ∧ w' = w := by
  by_cases h : d.size = 0
  · rw [acc_empty h]
    exact snk16_empty d w (by rw [ByteArray.toList_eq, List.isEmpty_iff_length_eq_zero]; simpa using h)
  · have h0 : 0 < d.size := by omega
    have he : d.toList.isEmpty = false := by
      rw [ByteArray.toList_eq, Bool.eq_false_iff, ne_eq, List.isEmpty_iff_length_eq_zero]; simpa using h
    by_cases hl : ((d[0]'h0).toNat : Int) < 97 ∨ (122 : Int) < ((d[0]'h0).toNat : Int)
    · rw [acc_first h0 (by rw [byteAt_lt h0]; simp [lowB]; omega)]
      exact snk16_first d w hd he h0 hl
    · have hn1 : d.size - 1 < d.size := by omega
      by_cases hla : (((d[d.size - 1]'hn1).toNat : Int) == 95) = true
      · rw [acc_last h0 (by rw [byteAt_lt hn1]; simp at hla; omega)]
        exact snk16_last d w hd he h0 (by omega) (by omega) hn1 hla
      · exact snk16_run d w hd he h0 (by omega) (by omega) hn1 (by simpa using hla)

theorem zz9 (d : ByteArray) (w : World) (hd : d.size ≤ 1048576) :
    Calls Try.prog 9 #[.string d] w fun e w' => e = .returned (.bool (acc d)) ∧ w' = w := by
  go_enter Try.func9, Try.ntmps9
  go_wp2_with (go_at_call 16; refine (snk16 _ _ hd).mono ?_; rintro e w' ⟨rfl, hw⟩; obtain rfl := hw.symm)
  go_ret
  exact ⟨rfl, rfl⟩

theorem bytes8 (d : ByteArray) (w : World) (hd : d.size ≤ maxLen) :
    Calls Try.prog 8 #[.string d] w fun e w' => e = .returned (.bool (decide (d.size ≤ 1048576))) ∧ w' = w := by
  unfold maxLen at hd
  by_cases h : d.size ≤ 1048576
  · rw [decide_eq_true h]
    go_enter Try.func8, Try.ntmps8
    go_wp2
    go_ret
    exact ⟨rfl, rfl⟩
  · rw [decide_eq_false h]
    go_enter Try.func8, Try.ntmps8
    go_wp2
    go_ret
    exact ⟨rfl, rfl⟩

end Go.Proofs.Qxb6602905a
