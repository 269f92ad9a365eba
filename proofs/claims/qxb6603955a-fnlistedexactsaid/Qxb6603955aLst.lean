import Derived.Test.Qxb6603955aRows
import Derived.Test.Qxb6603955aSb
import Derived.WalkKit
import Derived.ProofKit
import Derived.OpenShut
import Derived.ShutString
import Derived.ChangeOld
import Derived.Below
import Derived.SliceStrings
namespace Go.Proofs.Qxb6603955a.fnListedExact
open Go.ChangeShapes Go.WideShapes Go.ChangeAt Go.RowKit Go.Deep
open Go.ChangeMaps (open_string shut_string)
set_option linter.unusedVariables false

set_option maxHeartbeats 400000 in
theorem zz15_some (t : ByteArray) (b o n cap : Nat) (S : Nat → ByteArray) (w : World) (hn : n ≤ 1048576) (hb : b < w.heap.size)
    (hc : ∀ j, j < n → w.cell? ⟨b, o + j, none⟩ = some (.string (S j))) :
    Calls Try.prog 15 #[.slice (some ⟨b, o, none⟩) n cap, .string t] w fun e w' => e = .returned (.bool (hasS S t n)) ∧ Below w.heap.size w w' := by
  have hmk := fun wx => run_make_row' (P := Try.prog) 32 33 (.string ByteArray.empty) 16 Try.underlying32 Try.info33 rfl .i64 .i64 n (by omega) (by omega) wx
  go_enter Try.func15, Try.ntmps15
  go_wp2
  go_loopw [6] (fun i wr => ∃ k : Nat, k ≤ n ∧ i = .int .i64 k ∧ Below w.heap.size w wr ∧ wr.rowIs w.heap.size 33 n (fillTo S k)) (fun i _ => n - (intOf i).toNat)
  case atStart => exact ⟨0, Nat.zero_le _, rfl, (Below.refl _ _).alloc (Nat.le_refl _) _, (World.rowIs_made w _ n 33).congr (fun j _ => fillTo_zero S j)⟩
  case round =>
    obtain ⟨k, hk, rfl, hbel, hrow⟩ := hrel
    by_cases hlt : k < n
    · have hck : wr.cell? ⟨b, o + k, none⟩ = some (.string (S k)) := (hbel.cell (p := ⟨b, o + k, none⟩) hb).trans (hc k hlt)
      have hf := hrow.frozen k
      have hcc := hrow.cell hlt
      go_wp2
      go_roundw
      case rel => exact ⟨k + 1, by omega, by go_num, hbel.setCell (Nat.le_refl _) _, (hrow.set k _).congr (fun j _ => fillTo_succ S k j)⟩
      case measure => simp [intOf]; omega
    · obtain rfl : k = n := by omega
      have h18 := listed18_some t w.heap.size k k S wr hn (fun j hj => by rw [hrow.cell hj, fillTo_full S k j hj])
      go_wp2_with fail
      refine h18.mono ?_
      rintro e w1 ⟨rfl, hw⟩
      obtain rfl := hw.symm
      clear h18
      go_wp2
      go_ret
      exact ⟨rfl, hbel⟩

theorem zz15_zero (t : ByteArray) (a : Option Addr) (cap : Nat) (S : Nat → ByteArray) (w : World) :
    Calls Try.prog 15 #[.slice a 0 cap, .string t] w fun e w' => e = .returned (.bool (hasS S t 0)) ∧ Below w.heap.size w w' := by
  have hmk : ∀ wx, (Instr.makeSlice 32 (.int .i64 0) (.int .i64 0)).run Try.prog wx = .ok (.slice (some ⟨wx.heap.size, 0, none⟩) 0 0) (wx.alloc (.cells (madeCells #[.string ByteArray.empty] 0) 33)) := fun wx => run_make_row' (P := Try.prog) 32 33 (.string ByteArray.empty) 16 Try.underlying32 Try.info33 rfl .i64 .i64 0 (by omega) (by omega) wx
  go_enter Try.func15, Try.ntmps15
  go_wp2
  refine wp_loop_rounds 1 ?_
  rw [rounds_succ]
  go_wp2_with (go_at_call 18; refine (listed18_zero _ _ _ S _).mono ?_; rintro e w1 ⟨rfl, hw⟩; obtain rfl := hw.symm)
  go_ret
  exact ⟨rfl, (Below.refl _ _).alloc (Nat.le_refl _) _⟩

theorem zz15 (t : ByteArray) (a : Option Addr) (n cap : Nat) (S : Nat → ByteArray) (w : World) (hn : n ≤ 1048576) (hc : Strs w a n S) :
    Calls Try.prog 15 #[.slice a n cap, .string t] w fun e w' => e = .returned (.bool (hasS S t n)) ∧ Below w.heap.size w w' := by
  rcases hc with rfl | ⟨b, o, rfl, hb, hc⟩
  · exact zz15_zero t a cap S w
  · exact zz15_some t b o n cap S w hn hb hc

set_option maxHeartbeats 1000000 in
theorem walk (t : ByteArray) (a : Option Addr) (n cap : Nat) (S : Nat → ByteArray) (w : World) (ht : t.size ≤ maxLen) (hn : n ≤ maxLen)
    (h0 : a = none → n = 0 ∧ cap = 0) (hS : ∀ j, j < n → (S j).size ≤ maxLen) (hc : Strs w a n S) :
    Calls Try.prog 5 #[.slice a n cap, .string t] w fun e w' => e = .returned (.bool true) ∧ Below w.heap.size w w' := by
  have b5 := bytes12 t a n cap S w ht hn hS hc
  unfold maxLen at ht hn hS
  go_enter Try.func5, Try.ntmps5
  go_wp2_with fail
  refine b5.mono ?_
  rintro e w' ⟨r, rfl, hw, hr⟩
  cases r with
  | false =>
    go_wp2
    go_ret
    exact ⟨rfl, hw ▸ Below.refl _ _⟩
  | true =>
    have hsum := hr rfl
    clear hr b5
    subst hw
    have hSs : ∀ j, j < n → (S j).size ≤ 1048576 := fun j hj => by have := sumLen_le S hj; omega
    have b6 := fit13 t a n cap S w' (by omega) (by omega) hSs hc
    go_wp2_with fail
    refine b6.mono ?_
    rintro e w2 ⟨r, rfl, hw, -⟩
    clear b6
    subst hw
    cases r with
    | false =>
      go_wp2
      go_ret
      exact ⟨rfl, Below.refl _ _⟩
    | true =>
      have b7 := clone14 a n cap S w2 (by omega) h0 hc
      go_wp2_with fail
      refine b7.mono ?_
      rintro e w3 ⟨a3, rfl, hb3, ho3, hn3⟩
      clear b7
      have b8 := zz15 t a3 n n S w3 (by omega) ho3.strs
      go_wp2_with fail
      refine b8.mono ?_
      rintro e w4 ⟨rfl, hb4⟩
      clear b8
      have b9 := count16 t a3 n n S w4 (by omega) (ho3.strs.below hb4)
      go_wp2_with fail
      refine b9.mono ?_
      rintro e w5 ⟨q, rfl, hw, hq, hqe⟩
      obtain rfl := hw.symm
      clear b9
      have hB : Below w2.heap.size w2 w4 := hb3.trans (hb4.mono hb3.size)
      have HQ : Hid _ := hqe
      clear hqe
      go_wp2
      go_ret
      exact ⟨ret_bool (by have := HQ.out; simp at this; simp [this]), hB⟩

/-! ### The row's step -/
theorem own : ownKnob Try.prog.godebug = none := by kernel_rfl
theorem laidOut : laidOutB Try.prog = true := by kernel_rfl

set_option maxRecDepth 100000 in
theorem lifted (os : Os) (started : os.Started) (H : Type) (enc : TypeId × Value → H) :
    ReturnsInHanded {} Try.checked os 5 .any (Rows.fnListedExactSpec.pre6 enc Try.prog Try.f5 Rows.fnListedExactRow.domain false) (Rows.fnListedExactSpec.post enc Try.prog Try.f5 false true false false) := by
  refine returnsInHanded_of_change (C := Try.checked) own started (by kernel_rfl) Try.func5
    (ChangeSpec.witness6 (enc := enc) (C := Try.checked) false ⟨#[], #[.slice none 0 0, .string ByteArray.empty], []⟩ 8 (by kernel_rfl) (by kernel_rfl) (by kernel_rfl) (by kernel_rfl)) ?_
  intro W base args ds gs before hval0 hW hcnd _
  have hval : ∀ (j : Nat) t v, Try.f5.params[j]? = some t → args[j]? = some v → Value.okWide Try.prog W .any base t v := hval0
  have hW' := hW
  obtain ⟨p, q, hA0, hV, rfl, hfz, hnd⟩ := hW
  have hA : DataW.TrodAll enc Try.prog W 0 (fun _ => true) true Try.f5.params.toList args.toList ds p := hA0
  rw [Try.params5] at hA hval
  obtain ⟨v0, vs0, d0, ds0, p0, q0, hargs, rfl, rfl, h0, r0⟩ := trodAll_cons hA
  obtain ⟨v1, vs1, d1, ds1, p1, q1, rfl, rfl, rfl, h1, r1⟩ := trodAll_cons r0
  obtain ⟨rfl, rfl, rfl⟩ := trodAll_nil r1
  obtain rfl : args = #[v0, v1] := by cases args; simp_all
  obtain ⟨rfl, rfl⟩ := trodVars_none hV
  obtain ⟨a0, rfl, rfl, rfl, w0⟩ := open_string Try.underlying9 (hval 1 9 v1 rfl rfl) h1
  obtain ⟨a1, len1, cap1, rfl⟩ := okWide_slice Try.underlying27 (hval 0 27 v0 rfl rfl)
  have k1 := h0
  have lt1 : ∀ x ∈ p0, x.block < W.heap.size := by obtain ⟨m, hm⟩ := k1; exact DataW.trod_lt m _ _ _ hm
  obtain ⟨z1, w1⟩ : ∃ ss, IsStrs W a1 len1 cap1 ss := by
    obtain ⟨fuel, hf⟩ := h0
    rcases open_strings Try.underlying27 Try.underlying9 (by kernel_rfl) hf with ⟨hcs, _⟩ | ⟨x, l, c, zs, hcs, _, hl, hm, hz, _, hcell, hwz⟩
    · simp [Value.cells] at hcs
      obtain ⟨rfl, rfl, rfl⟩ := hcs
      exact ⟨[], .inl ⟨rfl, rfl, rfl, rfl⟩⟩
    · simp [Value.cells] at hcs
      obtain ⟨rfl, rfl, rfl⟩ := hcs
      exact ⟨zs, .inr ⟨_, rfl, hl, hm, by simpa using hz, hcell, hwz⟩⟩
  clear hA0 hval0
  refine (walk a0 a1 len1 cap1 (fun j => z1.getD j ByteArray.empty) W w0 w1.len w1.nil w1.sizes w1.strs).mono fun e W' ⟨he, bel⟩ => ?_
  subst he
  exact ⟨_, rfl, _, _, _, [], _, [], hW', trodAll_mk1 (shut_bool Try.underlying4 _), (trodAll_cons_mk (Below.trod laidOut (by kernel_rfl) (of_decide_eq_true (by kernel_rfl)) k1 bel lt1) (trodAll_cons_mk (shut_string Try.underlying9 w0) trodAll_mk0)), rfl, bel.frame _, fun h => by cases h⟩

theorem over : Rows.fnListedExactRow.holds Try.pinned (OpenSpec.ofChange Rows.fnListedExactSpec) :=
  OpenClaim.holds_of_wide 5 Try.f5 rfl rfl rfl rfl rfl rfl rfl ⟨rfl, rfl, rfl, rfl, rfl⟩ rfl rfl rfl rfl rfl (by kernel_rfl) Try.func5 (by kernel_rfl)
    (of_decide_eq_true (by kernel_rfl)) (by unfold Func.isWrapper; first | (rw [if_pos (by decide +kernel)]; kernel_rfl) | (rw [if_neg (by decide +kernel)]; exact ⟨rfl, rfl⟩))
    (fun os started H enc _ => lifted os started H enc)

/-- THE STATEMENT. -/
theorem proved : Rows.FnListedExactSaid := over

end Go.Proofs.Qxb6603955a.fnListedExact
