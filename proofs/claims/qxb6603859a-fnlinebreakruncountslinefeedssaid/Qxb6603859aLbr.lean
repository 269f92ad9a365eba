import Derived.Test.Qxb6603859aRows
import Derived.Test.Qxb6603859aPa
import Derived.WalkKit
import Derived.ProofKit
import Derived.OpenShut
import Derived.ShutString
import Derived.ChangeOld
import Derived.Below
namespace Go.Proofs.Qxb6603859a.fnLineBreakRunCountsLineFeeds
open Go.ChangeShapes Go.WideShapes Go.ChangeAt Go.RowKit Go.Deep
open Go.ChangeMaps (open_string shut_string)
set_option linter.unusedVariables false

theorem walk_big (d : ByteArray) (pos line : Int) (w : World) (hd : d.size ≤ maxLen) (hb : ¬ d.size ≤ 1048576) :
    Calls Try.prog 3 #[.string d, .int .i64 pos, .int .i64 line] w fun e w' => e = .returned (.bool true) ∧ Below w.heap.size w w' := by
  have hdec : decide (d.size ≤ 1048576) = false := decide_eq_false hb
  go_enter Try.func3, Try.ntmps3
  go_wp2_with (go_at_call 5; refine (bytes5 _ _ _ _ hd).mono ?_; rintro e w' ⟨rfl, rfl⟩)
  go_ret
  exact ⟨rfl, Below.refl _ _⟩

theorem walk_out (d : ByteArray) (pos line : Int) (w : World) (hd : d.size ≤ 1048576) (h : pos < 0 ∨ (d.size : Int) < pos) :
    Calls Try.prog 3 #[.string d, .int .i64 pos, .int .i64 line] w fun e w' => e = .returned (.bool true) ∧ Below w.heap.size w w' := by
  have hdec : decide (d.size ≤ 1048576) = true := decide_eq_true hd
  have hm : d.size ≤ maxLen := by unfold maxLen; omega
  by_cases h1 : pos < 0
  · go_enter Try.func3, Try.ntmps3
    go_wp2_with (go_at_call 5; refine (bytes5 _ _ _ _ hm).mono ?_; rintro e w' ⟨rfl, rfl⟩)
    go_ret
    exact ⟨rfl, Below.refl _ _⟩
  · have h2 : (d.size : Int) < pos := by omega
    go_enter Try.func3, Try.ntmps3
    go_wp2_with (go_at_call 5; refine (bytes5 _ _ _ _ hm).mono ?_; rintro e w' ⟨rfl, rfl⟩)
    go_ret
    exact ⟨rfl, Below.refl _ _⟩

set_option maxHeartbeats 2000000 in
theorem walk_in (d : ByteArray) (pos : Nat) (line : Int) (w : World) (hd : d.size ≤ 1048576) (hpos : pos ≤ d.size) :
    Calls Try.prog 3 #[.string d, .int .i64 pos, .int .i64 line] w fun e w' => e = .returned (.bool true) ∧ Below w.heap.size w w' := by
  have hdec : decide (d.size ≤ 1048576) = true := decide_eq_true hd
  have hm : d.size ≤ maxLen := by unfold maxLen; omega
  have hp1 : decide ((pos : Int) < 0) = false := by simp
  have hp2 : decide ((d.size : Int) < (pos : Int)) = false := by simp; omega
  have hp3 : decide (d.size < pos) = false := by simp; omega
  go_enter Try.func3, Try.ntmps3
  go_wp2_with (go_at_call 5; refine (bytes5 _ _ _ _ hm).mono ?_; rintro e w' ⟨rfl, hw⟩; obtain rfl := hw.symm)
  go_loopw [6, 8, 9, 10, 11] (fun r p l st i wr => ∃ (i' p' : Nat) (l' : Int), r = .bool false ∧ p = .int .i64 p' ∧ l = .int .i64 l' ∧ st = .bool false ∧ i = .int .i64 i' ∧ i' + pos ≤ p' ∧ p' ≤ d.size ∧ Below w.heap.size w wr ∧ Run d pos p' ∧ Cong line l' (cnt d pos (p' - pos))) (fun _ _ _ _ i _ => d.size + 1 - (intOf i).toNat)
  case atStart => exact ⟨0, pos, line, rfl, rfl, rfl, rfl, rfl, by omega, hpos, Below.refl _ _, Run.refl _ _, by rw [Nat.sub_self]; exact Cong.zero _⟩
  case round =>
    obtain ⟨i, p, l, rfl, rfl, rfl, rfl, rfl, hip, hpd, hbel, hrun, hcg⟩ := hrel
    have hi : i ≤ d.size := by omega
    have h6 := lb6 d p l wr hd hpd
    rcases brk_cases d p hpd with ⟨hb, hn1, hn2⟩ | hy
    · have e1 : okb d p = false := by simp [okb, hb]
      have e2 : pnx d p = (p : Int) := by simp [pnx, hb]
      have e3 : lnx d p l = l := by simp [lnx, hb]
      clear hb
      go_wp2_with fail
      refine h6.mono ?_
      rintro e w1 ⟨rfl, hb1⟩
      clear h6
      have hbel1 : Below w.heap.size w w1 := hbel.trans (hb1.mono hbel.size)
      have hsub := hcg.sub (by have := cnt_le d pos (p - pos); omega)
      clear hbel hb1 hcg
      go_wp2
      go_loop [17, 18] (fun c j => ∃ j' : Nat, pos ≤ j' ∧ j' ≤ p ∧ j = .int .i64 j' ∧ c = .int .i64 (cnt d pos (j' - pos))) (fun _ j => p - (intOf j).toNat)
      case atStart => exact ⟨pos, by omega, by omega, rfl, by rw [Nat.sub_self]; rfl⟩
      case round =>
        obtain ⟨j, hj1, hj2, rfl, rfl⟩ := hrel
        have hcl := cnt_le d pos (j - pos)
        by_cases hjp : j < p
        · have hjd : j < d.size := by omega
          rcases hrun j hj1 hjp with hc | ⟨hc, hj3, hc2⟩
          · have HC : Hid _ := cnt_one hj1 hc
            have hb : (((d[j]'hjd).toNat : Int) == 10) = true := by rw [byteAt_lt hjd] at hc; simp; omega
            clear hc
            go_wp2
            go_round
            case rel => exact ⟨j + 1, by omega, by omega, by go_num, by rw [HC.out]; go_num⟩
            case measure => simp [intOf]; omega
          · have HC : Hid _ := cnt_other hj1 (show byteAt d j ≠ 10 by omega)
            have hjd2 : j + 1 < d.size := by omega
            have hb : (((d[j]'hjd).toNat : Int) == 10) = false := by rw [byteAt_lt hjd] at hc; simp; omega
            have hb2 : (((d[j]'hjd).toNat : Int) == 13) = true := by rw [byteAt_lt hjd] at hc; simp; omega
            have hb3 : (((d[j + 1]'hjd2).toNat : Int) != 10) = false := by rw [byteAt_lt hjd2] at hc2; simp; omega
            clear hc hc2
            go_wp2
            go_round
            case rel => exact ⟨j + 1, by omega, by omega, by go_num, by rw [HC.out]⟩
            case measure => simp [intOf]; omega
        · obtain rfl : j = p := by omega
          by_cases hpn : j < d.size
          · have hb : (((d[j]'hpn).toNat : Int) == 10) = false := by rw [byteAt_lt hpn] at hn1; simp; omega
            by_cases hpn2 : j + 1 < d.size
            · by_cases h13 : (((d[j]'hpn).toNat : Int) == 13) = true
              · have hb2 : (((d[j + 1]'hpn2).toNat : Int) == 10) = false := by
                  rw [byteAt_lt hpn, byteAt_lt hpn2] at hn2
                  simp at h13
                  simp
                  omega
                clear hn1 hn2
                go_wp2
                go_ret
                exact ⟨rfl, hbel1⟩
              · have h13' : (((d[j]'hpn).toNat : Int) == 13) = false := by simpa using h13
                clear hn1 hn2 h13
                go_wp2
                go_ret
                exact ⟨rfl, hbel1⟩
            · clear hn1 hn2
              go_wp2
              go_ret
              exact ⟨rfl, hbel1⟩
          · clear hn1 hn2
            go_wp2
            go_ret
            exact ⟨rfl, hbel1⟩
    · obtain ⟨k, hk1, hk2, hbk, hkp, hrun', hcg'⟩ : ∃ k : Nat, 1 ≤ k ∧ k ≤ 2 ∧ brk d p = k ∧ p + k ≤ d.size ∧ Run d pos (p + k) ∧ Cong line (wrap64 (l + 1)) (cnt d pos (p + k - pos)) := by
        rcases hy with ⟨h1, h2⟩ | ⟨h1, h2, h3⟩
        · exact ⟨1, by omega, by omega, h1, byteAt_in h2 (by omega), hrun.one h2, by rw [cnt_one (by omega) h2]; exact hcg.succ⟩
        · exact ⟨2, by omega, by omega, h1, byteAt_in h3 (by omega), hrun.two h2 h3, by rw [cnt_two (by omega) h2 h3]; exact hcg.succ⟩
      have e1 : okb d p = true := by simp [okb, hbk]; omega
      have e2 : pnx d p = ((p + k : Nat) : Int) := by simp [pnx, hbk]
      have e3 : lnx d p l = wrap64 (l + 1) := by rw [lnx, hbk, if_neg (by omega)]
      obtain ⟨p2, hp2⟩ : ∃ p2, p2 = p + k := ⟨_, rfl⟩
      obtain ⟨l2, hl2⟩ : ∃ l2, l2 = wrap64 (l + 1) := ⟨_, rfl⟩
      rw [← hp2] at e2 hrun' hcg' hkp
      rw [← hl2] at e3 hcg'
      have hlt : p < p2 := by omega
      clear hy hbk hp2 hl2 hrun hcg
      have ht1 : decide (p2 ≤ p) = false := by simp; omega
      have ht2 : decide (d.size < p2) = false := by simp; omega
      go_wp2_with fail
      refine h6.mono ?_
      rintro e w1 ⟨rfl, hb1⟩
      clear h6
      have hbel1 : Below w.heap.size w w1 := hbel.trans (hb1.mono hbel.size)
      clear hbel hb1
      go_wp2
      go_roundw
      case rel => exact ⟨i + 1, p2, l2, rfl, rfl, rfl, rfl, by go_num, by omega, hkp, hbel1, hrun', hcg'⟩
      case measure => simp [intOf]; omega

theorem walk (d : ByteArray) (pos line : Int) (hd : d.size ≤ maxLen) (w : World) :
    Calls Try.prog 3 #[.string d, .int .i64 pos, .int .i64 line] w fun e w' => e = .returned (.bool true) ∧ Below w.heap.size w w' := by
  by_cases h1 : d.size ≤ 1048576
  · by_cases h2 : pos < 0 ∨ (d.size : Int) < pos
    · exact walk_out d pos line w h1 h2
    · obtain ⟨q, rfl⟩ : ∃ q : Nat, pos = q := ⟨pos.toNat, by omega⟩
      exact walk_in d q line w h1 (by omega)
  · exact walk_big d pos line w hd h1

theorem own : ownKnob Try.prog.godebug = none := by kernel_rfl

set_option maxRecDepth 100000 in
theorem lifted (os : Os) (started : os.Started) (H : Type) (enc : TypeId × Value → H) :
    ReturnsInHanded {} Try.checked os 3 .any (Rows.fnLineBreakRunCountsLineFeedsSpec.pre6 enc Try.prog Try.f3 Rows.fnLineBreakRunCountsLineFeedsRow.domain false) (Rows.fnLineBreakRunCountsLineFeedsSpec.post enc Try.prog Try.f3 false true false false) := by
  refine returnsInHanded_of_change (C := Try.checked) own started (by kernel_rfl) Try.func3
    (ChangeSpec.witness6 (enc := enc) (C := Try.checked) false ⟨#[], #[.string ByteArray.empty, .int .i64 0, .int .i64 0], []⟩ 8 (by kernel_rfl) (by kernel_rfl) (by kernel_rfl) (by kernel_rfl)) ?_
  intro W base args ds gs before hval0 hW hcnd _
  have hval : ∀ (j : Nat) t v, Try.f3.params[j]? = some t → args[j]? = some v → Value.okWide Try.prog W .any base t v := hval0
  have hW' := hW
  obtain ⟨p, q, hA0, hV, rfl, hfz, hnd⟩ := hW
  have hA : DataW.TrodAll enc Try.prog W 0 (fun _ => true) true Try.f3.params.toList args.toList ds p := hA0
  rw [Try.params3] at hA hval
  obtain ⟨v0, vs0, d0, ds0, p0, q0, hargs, rfl, rfl, h0, r0⟩ := trodAll_cons hA
  obtain ⟨v1, vs1, d1, ds1, p1, q1, rfl, rfl, rfl, h1, r1⟩ := trodAll_cons r0
  obtain ⟨v2, vs2, d2, ds2, p2, q2, rfl, rfl, rfl, h2, r2⟩ := trodAll_cons r1
  obtain ⟨rfl, rfl, rfl⟩ := trodAll_nil r2
  obtain rfl : args = #[v0, v1, v2] := by cases args; simp_all
  obtain ⟨rfl, rfl⟩ := trodVars_none hV
  obtain ⟨a0, rfl, rfl, rfl, w0⟩ := open_string Try.underlying9 (hval 0 9 v0 rfl rfl) h0
  obtain ⟨a1, rfl, rfl, rfl, w1⟩ := open_int Try.underlying3 (hval 1 3 v1 rfl rfl) h1
  obtain ⟨a2, rfl, rfl, rfl, w2⟩ := open_int Try.underlying3 (hval 2 3 v2 rfl rfl) h2
  clear hA0 hval0
  refine (walk a0 a1 a2 w0 W).mono fun e W' ⟨he, bel⟩ => ?_
  subst he
  exact ⟨_, rfl, _, _, _, [], _, [], hW', trodAll_mk1 (shut_bool Try.underlying4 _), (trodAll_cons_mk (shut_string Try.underlying9 w0) (trodAll_cons_mk (shut_int Try.underlying3 w1) (trodAll_cons_mk (shut_int Try.underlying3 w2) trodAll_mk0))), rfl, bel.frame _, fun h => by cases h⟩

theorem over : Rows.fnLineBreakRunCountsLineFeedsRow.holds Try.pinned (OpenSpec.ofChange Rows.fnLineBreakRunCountsLineFeedsSpec) :=
  OpenClaim.holds_of_wide 3 Try.f3 rfl rfl rfl rfl rfl rfl rfl ⟨rfl, rfl, rfl, rfl, rfl⟩ rfl rfl rfl rfl rfl (by kernel_rfl) Try.func3 (by kernel_rfl)
    (of_decide_eq_true (by kernel_rfl)) (by unfold Func.isWrapper; first | (rw [if_pos (by decide +kernel)]; kernel_rfl) | (rw [if_neg (by decide +kernel)]; exact ⟨rfl, rfl⟩))
    (fun os started H enc _ => lifted os started H enc)

/-- THE STATEMENT. -/
theorem proved : Rows.FnLineBreakRunCountsLineFeedsSaid := over

end Go.Proofs.Qxb6603859a.fnLineBreakRunCountsLineFeeds
