import Derived.Test.Qxb6603843aRows
import Derived.Test.Qxb6603843aWd
import Derived.WalkKit
import Derived.ProofKit
import Derived.OpenShut
import Derived.ShutString
import Derived.ChangeOld
import Derived.Below
import Derived.SliceStrings
namespace Go.Proofs.Qxb6603843a.fnDecisionStringLength
open Go.ChangeShapes Go.WideShapes Go.ChangeAt Go.RowKit Go.Deep
open Go.ChangeMaps (open_string shut_string)
set_option linter.unusedVariables false

theorem ret_true {a b : Int} (h : a = b) : Ending.returned (.bool (a == b)) = .returned (.bool true) := by rw [h]; simp

set_option maxHeartbeats 1000000 in
theorem walk (id : ByteArray) (a : Option Addr) (n cap : Nat) (S : Nat → ByteArray) (w : World) (hid : id.size ≤ maxLen) (hn : n ≤ maxLen)
    (h0 : a = none → n = 0 ∧ cap = 0) (hS : ∀ j, j < n → (S j).size ≤ maxLen) (hc : Strs w a n S) :
    Calls Try.prog 3 #[.string id, .slice a n cap] w fun e w' => e = .returned (.bool true) ∧ Below w.heap.size w w' := by
  have b5 := bytes5 id a n cap S w hid hn hS hc
  unfold maxLen at hid hn hS
  go_enter Try.func3, Try.ntmps3
  go_wp2_with fail
  refine b5.mono ?_
  rintro e w' ⟨r, rfl, hw, hr⟩
  cases r with
  | false =>
    go_wp2
    go_ret
    exact ⟨rfl, hw ▸ Below.refl _ _⟩
  | true =>
    have hsum := hr rfl
    clear hr b5
    subst hw
    have hSs : ∀ j, j < n → (S j).size ≤ 1048576 := fun j hj => by have := sumLen_le S hj; omega
    have b6 := fits6 id a n cap S w' (by unfold maxLen; omega) (by unfold maxLen; omega) hSs hc
    go_wp2_with fail
    · go_ret
      exact ⟨rfl, Below.refl _ _⟩
    refine b6.mono ?_
    rintro e w2 ⟨r, rfl, hw, -⟩
    clear b6
    subst hw
    cases r with
    | false =>
      go_wp2
      go_ret
      exact ⟨rfl, Below.refl _ _⟩
    | true =>
      have b7 := clone7 a n cap S w2 (by omega) h0 hc
      go_wp2_with fail
      refine b7.mono ?_
      rintro e w3 ⟨a3, rfl, hb3, ho3, hn3⟩
      clear b7
      have b8 := make8 id a3 n n S w3 (by omega) (fun h => ⟨hn3 h, hn3 h⟩) ho3.strs
      go_wp2_with fail
      refine b8.mono ?_
      rintro e w4 ⟨a4, rfl, hb4, ho4⟩
      clear b8
      have b9 := str9 id _ a4 n n S w4 (by omega) (by omega) (by omega) ho4
      go_wp2_with fail
      refine b9.mono ?_
      rintro e w5 ⟨rfl, hb5⟩
      clear b9
      have hsz := decStr_size id S n
      have hB : Below w2.heap.size w2 w5 := hb3.trans ((hb4.mono hb3.size).trans (hb5.mono (Nat.le_trans hb3.size hb4.size)))
      have hst : Strs w5 a3 n S := (ho3.strs.below hb4).below hb5
      have hSZ : Hid _ := hsz
      have hlt5 : (decStr id S n).size ≤ 5000000 := by have := hsz; split at this <;> omega
      clear hsz
      by_cases hn0 : n = 0
      · subst hn0
        go_wp2
        go_ret
        exact ⟨ret_true (by have := hSZ.out; rw [if_pos trivial] at this; omega), hB⟩
      · have hn0' : ((n : Int) == 0) = false := by simpa using hn0
        obtain ⟨b3, o3, ha3, hlt3, hc3⟩ := hst.resolve_left hn0
        subst ha3
        go_wp2
        go_loop [6, 7] (fun t i => ∃ k : Nat, k ≤ n ∧ i = .int .i64 k ∧ t = .int .i64 (12 + id.size + (16 + n - 1) + sumLen S k)) (fun _ i => n - (intOf i).toNat)
        case atStart => exact ⟨0, Nat.zero_le _, rfl, by simp [sumLen]⟩
        case round =>
          obtain ⟨k, hk, rfl, rfl⟩ := hrel
          have hks := sumLen_mono S hk
          by_cases hlt : k < n
          · have hck := hc3 k hlt
            have hSk := hSs k hlt
            go_wp2
            go_round
            case rel => exact ⟨k + 1, by omega, by go_num, by simp only [sumLen]; go_num⟩
            case measure => simp [intOf]; omega
          · go_wp2
            go_ret
            obtain rfl : k = n := by omega
            exact ⟨ret_true (by have := hSZ.out; rw [if_neg hn0] at this; omega), hB⟩

/-! ### The row's step -/
theorem own : ownKnob Try.prog.godebug = none := by kernel_rfl
theorem laidOut : laidOutB Try.prog = true := by kernel_rfl

set_option maxRecDepth 100000 in
theorem lifted (os : Os) (started : os.Started) (H : Type) (enc : TypeId × Value → H) :
    ReturnsInHanded {} Try.checked os 3 .any (Rows.fnDecisionStringLengthSpec.pre6 enc Try.prog Try.f3 Rows.fnDecisionStringLengthRow.domain false) (Rows.fnDecisionStringLengthSpec.post enc Try.prog Try.f3 false true false false) := by
  refine returnsInHanded_of_change (C := Try.checked) own started (by kernel_rfl) Try.func3
    (ChangeSpec.witness6 (enc := enc) (C := Try.checked) false ⟨#[], #[.string ByteArray.empty, .slice none 0 0], []⟩ 8 (by kernel_rfl) (by kernel_rfl) (by kernel_rfl) (by kernel_rfl)) ?_
  intro W base args ds gs before hval0 hW hcnd _
  have hval : ∀ (j : Nat) t v, Try.f3.params[j]? = some t → args[j]? = some v → Value.okWide Try.prog W .any base t v := hval0
  have hW' := hW
  obtain ⟨p, q, hA0, hV, rfl, hfz, hnd⟩ := hW
  have hA : DataW.TrodAll enc Try.prog W 0 (fun _ => true) true Try.f3.params.toList args.toList ds p := hA0
  rw [Try.params3] at hA hval
  obtain ⟨v0, vs0, d0, ds0, p0, q0, hargs, rfl, rfl, h0, r0⟩ := trodAll_cons hA
  obtain ⟨v1, vs1, d1, ds1, p1, q1, rfl, rfl, rfl, h1, r1⟩ := trodAll_cons r0
  obtain ⟨rfl, rfl, rfl⟩ := trodAll_nil r1
  obtain rfl : args = #[v0, v1] := by cases args; simp_all
  obtain ⟨rfl, rfl⟩ := trodVars_none hV
  obtain ⟨a0, rfl, rfl, rfl, w0⟩ := open_string Try.underlying9 (hval 0 9 v0 rfl rfl) h0
  obtain ⟨a1, len1, cap1, rfl⟩ := okWide_slice Try.underlying22 (hval 1 22 v1 rfl rfl)
  have k1 := h1
  have lt1 : ∀ x ∈ p1, x.block < W.heap.size := by obtain ⟨m, hm⟩ := k1; exact DataW.trod_lt m _ _ _ hm
  obtain ⟨z1, w1⟩ : ∃ ss, IsStrs W a1 len1 cap1 ss := by
    obtain ⟨fuel, hf⟩ := h1
    rcases open_strings Try.underlying22 Try.underlying9 (by kernel_rfl) hf with ⟨hcs, _⟩ | ⟨x, l, c, zs, hcs, _, hl, hm, hz, _, hcell, hwz⟩
    · simp [Value.cells] at hcs
      obtain ⟨rfl, rfl, rfl⟩ := hcs
      exact ⟨[], .inl ⟨rfl, rfl, rfl, rfl⟩⟩
    · simp [Value.cells] at hcs
      obtain ⟨rfl, rfl, rfl⟩ := hcs
      exact ⟨zs, .inr ⟨_, rfl, hl, hm, by simpa using hz, hcell, hwz⟩⟩
  clear hA0 hval0
  refine (walk a0 a1 len1 cap1 (fun j => z1.getD j ByteArray.empty) W w0 w1.len w1.nil w1.sizes w1.strs).mono fun e W' ⟨he, bel⟩ => ?_
  subst he
  exact ⟨_, rfl, _, _, _, [], _, [], hW', trodAll_mk1 (shut_bool Try.underlying4 _), (trodAll_cons_mk (shut_string Try.underlying9 w0) (trodAll_cons_mk (Below.trod laidOut (by kernel_rfl) (of_decide_eq_true (by kernel_rfl)) k1 bel lt1) trodAll_mk0)), rfl, bel.frame _, fun h => by cases h⟩

theorem over : Rows.fnDecisionStringLengthRow.holds Try.pinned (OpenSpec.ofChange Rows.fnDecisionStringLengthSpec) :=
  OpenClaim.holds_of_wide 3 Try.f3 rfl rfl rfl rfl rfl rfl rfl ⟨rfl, rfl, rfl, rfl, rfl⟩ rfl rfl rfl rfl rfl (by kernel_rfl) Try.func3 (by kernel_rfl)
    (of_decide_eq_true (by kernel_rfl)) (by unfold Func.isWrapper; first | (rw [if_pos (by decide +kernel)]; kernel_rfl) | (rw [if_neg (by decide +kernel)]; exact ⟨rfl, rfl⟩))
    (fun os started H enc _ => lifted os started H enc)

/-- THE STATEMENT. -/
theorem proved : Rows.FnDecisionStringLengthSaid := over

end Go.Proofs.Qxb6603843a.fnDecisionStringLength
