import Derived.Test.Qxb6603843aRows
import Derived.Test.Qxb6603843aWe
import Derived.Test.Qxb6603843aPb
import Derived.WalkSmall
import Derived.WalkKit
import Derived.ProofKit
import Derived.OpenShut
import Derived.ShutString
import Derived.ChangeOld
import Derived.Below
import Derived.SliceStrings
namespace Go.Proofs.Qxb6603843a.fnDecisionStringDecodes
open Go.ChangeShapes Go.WideShapes Go.ChangeAt Go.RowKit Go.Deep
open Go.ChangeMaps (open_string shut_string)
set_option linter.unusedVariables false

theorem byte_ne {x y : UInt8} {c : Nat} (h : x = y) (hy : y.toNat ≠ c) : (((x.toNat : Int)) != (c : Int)) = true := by
  rw [h]; simp; omega
theorem byte_ne2 {x y : UInt8} {c : Nat} (h : x = y) (hy : y.toNat ≠ c) : (((x.toNat : Int)) == (c : Int)) = false := by
  rw [h]; simp; omega
theorem byte_eq {x : UInt8} {c : Nat} (h : x = UInt8.ofNat c) (hc : c < 256) : (((x.toNat : Int)) != (c : Int)) = false := by
  rw [h]; simp [Nat.mod_eq_of_lt hc]

/-- Where the splitting stands: in piece m, or behind all of them. -/
def Inv (S : Nat → ByteArray) (n m j : Nat) : Prop :=
  (m < n ∧ 16 + offP S m ≤ j ∧ j ≤ 16 + offP S m + (S m).size) ∨ (m = n ∧ j = (restB S n).size + 1)
theorem Inv.start (S : Nat → ByteArray) (n : Nat) (h : 0 < n) : Inv S n 0 16 := .inl ⟨h, by simp [offP, sumLen], by simp [offP, sumLen]⟩
/-- The piece's end lies in the text; it is the text's end at the last piece alone. -/
theorem piece_end (S : Nat → ByteArray) (n m : Nat) (h : m < n) : 16 + offP S m + (S m).size ≤ (restB S n).size ∧ (m + 1 = n → 16 + offP S m + (S m).size = (restB S n).size) ∧ (m + 1 < n → 16 + offP S m + (S m).size < (restB S n).size) := by
  have h1 := restB_size S n (by omega)
  have h2 := offP_succ S m
  have h3 := offP_mono S (show m + 1 ≤ n from h)
  refine ⟨by omega, fun e => ?_, fun e => ?_⟩
  · subst e; omega
  · have h4 := offP_mono S (show m + 2 ≤ n from e)
    have h5 : offP S (m + 2) = _ := offP_succ S (m + 1)
    omega
theorem Inv.next {S : Nat → ByteArray} {n m j : Nat} (h : m < n) (hj : j = 16 + offP S m + (S m).size) : Inv S n (m + 1) (j + 1) := by
  have h1 := piece_end S n m h
  have h2 := offP_succ S m
  by_cases e : m + 1 = n
  · exact .inr ⟨e, by have := h1.2.1 e; omega⟩
  · exact .inl ⟨by omega, by omega, by omega⟩

set_option maxHeartbeats 2000000 in
theorem walk (id : ByteArray) (a : Option Addr) (n cap : Nat) (S : Nat → ByteArray) (w : World) (hid : id.size ≤ maxLen) (hn : n ≤ maxLen)
    (h0 : a = none → n = 0 ∧ cap = 0) (hS : ∀ j, j < n → (S j).size ≤ maxLen) (hc : Strs w a n S) :
    Calls Try.prog 4 #[.string id, .slice a n cap] w fun e w' => e = .returned (.bool true) ∧ Below w.heap.size w w' := by
  have b5 := bytes10 id a n cap S w hid hn hS hc
  unfold maxLen at hid hn hS
  go_enter Try.func4, Try.ntmps4
  go_wp2_with fail
  refine b5.mono ?_
  rintro e w' ⟨r, rfl, hw, hr⟩
  cases r with
  | false =>
    go_wp2
    go_ret
    exact ⟨rfl, hw ▸ Below.refl _ _⟩
  | true =>
    have hsum := hr rfl
    clear hr b5
    subst hw
    have hSs : ∀ j, j < n → (S j).size ≤ 1048576 := fun j hj => by have := sumLen_le S hj; omega
    have b6 := fits6 id a n cap S w' (by unfold maxLen; omega) (by unfold maxLen; omega) hSs hc
    go_wp2_with fail
    · go_ret
      exact ⟨rfl, Below.refl _ _⟩
    refine b6.mono ?_
    rintro e w2 ⟨r, rfl, hw, -⟩
    clear b6
    subst hw
    cases r with
    | false =>
      go_wp2
      go_ret
      exact ⟨rfl, Below.refl _ _⟩
    | true =>
      have b11 := has11 id 61 w2 (by omega)
      go_wp2_with fail
      refine b11.mono ?_
      rintro e w3 ⟨r, rfl, hw, hr⟩
      clear b11
      subst hw
      cases r with
      | true =>
        go_wp2
        go_ret
        exact ⟨rfl, Below.refl _ _⟩
      | false =>
        have hlid : Lacks id 61 := hr rfl
        clear hr
        go_wp2
        go_loop [5] (fun i => ∃ k : Nat, k ≤ n ∧ i = .int .i64 k ∧ ∀ j, j < k → Lacks (S j) 44) (fun i => n - (intOf i).toNat)
        case atStart => exact ⟨0, Nat.zero_le _, rfl, fun j hj => by omega⟩
        case round =>
          obtain ⟨k, hk, rfl, hl⟩ := hrel
          by_cases hlt : k < n
          · obtain ⟨b1, o1, ha1, hlt1, hc1⟩ := hc.resolve_left (by omega)
            subst ha1
            have hck := hc1 k hlt
            have b11 := has11 (S k) 44 w3 (hSs k hlt)
            go_wp2_with fail
            refine b11.mono ?_
            rintro e w4 ⟨r, rfl, hw, hr⟩
            clear b11
            subst hw
            cases r with
            | true =>
              go_wp2
              go_ret
              exact ⟨rfl, Below.refl _ _⟩
            | false =>
              go_wp2
              go_round
              case rel => exact ⟨k + 1, by omega, by go_num, fun j hj => by
                by_cases e : j = k
                · subst e; exact hr trivial
                · exact hl j (by omega)⟩
              case measure => simp [intOf]; omega
          · obtain rfl : k = n := by omega
            have hL : Hid (∀ j, j < k → Lacks (S j) 44) := hl
            clear hl
            have b7 := clone7 a k cap S w3 (by omega) h0 hc
            go_wp2_with fail
            refine b7.mono ?_
            rintro e w4 ⟨a4, rfl, hb4, ho4, hn4⟩
            clear b7
            have b8 := make8 id a4 k k S w4 (by omega) (fun h => ⟨hn4 h, hn4 h⟩) ho4.strs
            go_wp2_with fail
            refine b8.mono ?_
            rintro e w5 ⟨a5, rfl, hb5, ho5⟩
            clear b8
            have b9 := str9 id _ a5 k k S w5 (by omega) (by omega) (by omega) ho5
            go_wp2_with fail
            refine b9.mono ?_
            rintro e w6 ⟨rfl, hb6⟩
            clear b9
            have hB : Below w3.heap.size w3 w6 := hb4.trans ((hb5.mono hb4.size).trans (hb6.mono (Nat.le_trans hb4.size hb5.size)))
            have hst : Strs w6 a4 k S := (ho4.strs.below hb5).below hb6
            clear hb4 hb5 hb6 ho4 ho5
            have hsz := dec_size id S k
            have hrp := restB_ne S k
            have hrsz : (restB S k).size ≤ 3000000 := by
              by_cases e : k = 0
              · subst e; show accB.size ≤ _; rw [accB_size]; omega
              · have := restB_size S k (by omega); have := offP_mono S (Nat.le_refl k); unfold offP at *; omega
            have hdsz : (decStr id S k).size ≤ 5000000 := by omega
            have hdl : 12 + id.size < (decStr id S k).size := by omega
            have HSZ : Hid _ := hsz
            clear hsz
            obtain ⟨hw1, hw2⟩ := dec_word id S k
            have b12 : Calls Try.prog 12 #[.string (decStr id S k), .int .i64 0, .string ⟨#[105, 110, 115, 116, 114, 117, 99, 116, 105, 111, 110, 46]⟩] w6 fun e w' => e = .returned (.tuple #[.int .i64 12, .bool true]) ∧ ∃ nq, w' = w6.drewN nq := eat12 (decStr id S k) instrB w6 (by omega) hw1 (fun i h => hw2 i h _)
            clear hw1 hw2
            go_wp2_with fail
            refine b12.mono ?_
            rintro e w7 ⟨rfl, nq, hw⟩
            clear b12
            subst hw
            go_wp2
            go_loop [9] (fun i => ∃ q : Nat, 12 ≤ q ∧ q ≤ 12 + id.size ∧ i = .int .i64 q) (fun i => (decStr id S k).size - (intOf i).toNat)
            case atStart => exact ⟨12, by omega, by omega, rfl⟩
            case round =>
              obtain ⟨q, hq1, hq2, rfl⟩ := hrel
              have hqs : q < (decStr id S k).size := by omega
              by_cases hq : q < 12 + id.size
              · have hby := byte_ne (dec_id id S k q hq1 hq hqs) (hlid _ _)
                go_wp2_with fail
                go_round
                case rel => exact ⟨q + 1, by omega, by omega, by go_num⟩
                case measure => simp [intOf]; omega
              · have hby : ((((decStr id S k)[q]'hqs).toNat : Int) != 61) = false := by
                  have e : (decStr id S k)[q]'hqs = 61 := by
                    obtain rfl : q = 12 + id.size := by omega
                    exact dec_eq id S k hqs
                  exact byte_eq (c := 61) e (by omega)
                have hex1 : (decStr id S k).extract 12 q = id := by rw [show q = 12 + id.size by omega]; exact dec_ext_id id S k
                have hqd : ((q : Int) == ((decStr id S k).size : Int)) = false := by simp; omega
                by_cases hk0 : k = 0
                · subst hk0
                  have hex2 : (decStr id S 0).extract q (decStr id S 0).size = ⟨#[61, 97, 99, 99, 101, 112, 116]⟩ := by rw [show q = 12 + id.size by omega]; exact dec_ext_rest id S 0
                  go_wp2_with fail
                  go_ret
                  exact ⟨rfl, below_drewN hB _⟩
                · have hk0' : ((k : Int) == 0) = false := by simpa using hk0
                  have hex2 : (decStr id S k).extract q (decStr id S k).size = restB S k := by rw [show q = 12 + id.size by omega]; exact dec_ext_rest id S k
                  have hacc : ((restB S k).toList == [61, 97, 99, 99, 101, 112, 116]) = false := by rw [ByteArray.toList_eq]; exact rest_ne_acc S k (by omega)
                  obtain ⟨hw1, hw2⟩ := rest_word S k (by omega)
                  have b12 : ∀ wx, Calls Try.prog 12 #[.string (restB S k), .int .i64 0, .string ⟨#[61, 114, 101, 106, 101, 99, 116, 32, 114, 101, 97, 115, 111, 110, 115, 61]⟩] wx fun e w' => e = .returned (.tuple #[.int .i64 16, .bool true]) ∧ ∃ nq, w' = wx.drewN nq := fun wx => eat12 (restB S k) rejB wx (by omega) hw1 (fun i h => hw2 i h _)
                  clear hw1 hw2
                  have B12 : Hid _ := b12
                  clear b12
                  obtain ⟨b4, o4, ha4, hlt4, hc4⟩ := hst.resolve_left hk0
                  subst ha4
                  go_wp2_with fail
                  refine (B12.out _).mono ?_
                  rintro e w8 ⟨rfl, nq2, hw⟩
                  subst hw
                  have hrs := restB_size S k (by omega)
                  have HRS : Hid _ := hrs
                  clear hrs B12 hacc
                  go_wp2
                  go_loopw [13, 14, 15] (fun c st j wr => ∃ m st' j' : Nat, c = .int .i64 m ∧ st = .int .i64 st' ∧ j = .int .i64 j' ∧ (∃ nq, wr = w6.drewN nq) ∧ Inv S k m j' ∧ Hid (m < k → st' = 16 + offP S m)) (fun _ _ j _ => (restB S k).size + 2 - (intOf j).toNat)
                  case atStart => exact ⟨0, 16, 16, rfl, rfl, rfl, ⟨_, rfl⟩, Inv.start S k (by omega), fun _ => by simp [offP, sumLen]⟩
                  case round =>
                    obtain ⟨m, st, j, rfl, rfl, rfl, ⟨nq3, rfl⟩, hinv, HST⟩ := hrel
                    have HINV : Hid _ := hinv
                    rcases hinv with ⟨hmk, hj1, hj2⟩ | ⟨hmk, hj⟩
                    · obtain ⟨hp1, hp2, hp3⟩ := piece_end S k m hmk
                      have HP2 : Hid _ := hp2
                      have HP3 : Hid _ := hp3
                      clear hp2 hp3
                      have hst1 : st ≤ j := by have := HST.out hmk; omega
                      have hjs : j ≤ (restB S k).size := by omega
                      by_cases hje : j < 16 + offP S m + (S m).size
                      · have hjl : j < (restB S k).size := by omega
                        have hjn : ((j : Int) == ((restB S k).size : Int)) = false := by simp; omega
                        have hby := byte_ne2 (rest_in S k m j hmk hj1 hje hjl) (hL.out m hmk _ _)
                        have HI : Hid (Inv S k m (j + 1)) := .inl ⟨hmk, by omega, by omega⟩
                        clear hj1 hj2 hje
                        go_wp2
                        go_roundw
                        case rel => exact ⟨m, st, j + 1, rfl, rfl, by go_num, ⟨_, rfl⟩, HI.out, HST⟩
                        case measure => simp [intOf]; omega
                      · have hjE : Hid (j = 16 + offP S m + (S m).size) := by show _ = _; omega
                        have hex : (restB S k).extract st j = S m := by rw [HST.out hmk, hjE.out]; exact rest_ext S k m hmk
                        have hcm : w6.cell? ⟨b4, o4 + m, none⟩ = some (.string (S m)) := hc4 m hmk
                        clear hj1 hj2 hje
                        by_cases hlast : m + 1 = k
                        · have hjn : ((j : Int) == ((restB S k).size : Int)) = true := by have := HP2.out hlast; have := hjE.out; simp; omega
                          clear hlast
                          go_wp2
                          go_quiet (fail)
                          go_wp2
                          go_roundw
                          case rel => exact ⟨m + 1, j + 1, j + 1, by go_num, by go_num, by go_num, ⟨_, rfl⟩, Inv.next hmk hjE.out, fun _ => by have := hjE.out; have := offP_succ S m; omega⟩
                          case measure => simp [intOf]; omega
                        · have hm1 : m + 1 < k := by omega
                          have hjl : j < (restB S k).size := by have := HP3.out hm1; have := hjE.out; omega
                          have hjn : ((j : Int) == ((restB S k).size : Int)) = false := by simp; omega
                          have hby : ((((restB S k)[j]'hjl).toNat : Int) == 44) = true := by
                            have e : (restB S k)[j]'hjl = 44 := by
                              have e2 := hjE.out
                              subst e2
                              exact rest_comma S k m hm1 hjl
                            rw [e]; rfl
                          go_wp2
                          go_quiet (fail)
                          go_wp2
                          go_roundw
                          case rel => exact ⟨m + 1, j + 1, j + 1, by go_num, by go_num, by go_num, ⟨_, rfl⟩, Inv.next hmk hjE.out, fun _ => by have := hjE.out; have := offP_succ S m; omega⟩
                          case measure => simp [intOf]; omega
                    · have hjg : ¬ (j : Int) ≤ ((restB S k).size : Int) := by omega
                      subst hmk
                      clear hj
                      go_wp2
                      go_ret
                      exact ⟨rfl, below_drewN hB _⟩

/-! ### The row's step -/
theorem own : ownKnob Try.prog.godebug = none := by kernel_rfl
theorem laidOut : laidOutB Try.prog = true := by kernel_rfl

set_option maxRecDepth 100000 in
theorem lifted (os : Os) (started : os.Started) (H : Type) (enc : TypeId × Value → H) :
    ReturnsInHanded {} Try.checked os 4 .any (Rows.fnDecisionStringDecodesSpec.pre6 enc Try.prog Try.f4 Rows.fnDecisionStringDecodesRow.domain false) (Rows.fnDecisionStringDecodesSpec.post enc Try.prog Try.f4 false true false false) := by
  refine returnsInHanded_of_change (C := Try.checked) own started (by kernel_rfl) Try.func4
    (ChangeSpec.witness6 (enc := enc) (C := Try.checked) false ⟨#[], #[.string ByteArray.empty, .slice none 0 0], []⟩ 8 (by kernel_rfl) (by kernel_rfl) (by kernel_rfl) (by kernel_rfl)) ?_
  intro W base args ds gs before hval0 hW hcnd _
  have hval : ∀ (j : Nat) t v, Try.f4.params[j]? = some t → args[j]? = some v → Value.okWide Try.prog W .any base t v := hval0
  have hW' := hW
  obtain ⟨p, q, hA0, hV, rfl, hfz, hnd⟩ := hW
  have hA : DataW.TrodAll enc Try.prog W 0 (fun _ => true) true Try.f4.params.toList args.toList ds p := hA0
  rw [Try.params4] at hA hval
  obtain ⟨v0, vs0, d0, ds0, p0, q0, hargs, rfl, rfl, h0, r0⟩ := trodAll_cons hA
  obtain ⟨v1, vs1, d1, ds1, p1, q1, rfl, rfl, rfl, h1, r1⟩ := trodAll_cons r0
  obtain ⟨rfl, rfl, rfl⟩ := trodAll_nil r1
  obtain rfl : args = #[v0, v1] := by cases args; simp_all
  obtain ⟨rfl, rfl⟩ := trodVars_none hV
  obtain ⟨a0, rfl, rfl, rfl, w0⟩ := open_string Try.underlying9 (hval 0 9 v0 rfl rfl) h0
  obtain ⟨a1, len1, cap1, rfl⟩ := okWide_slice Try.underlying22 (hval 1 22 v1 rfl rfl)
  have k1 := h1
  have lt1 : ∀ x ∈ p1, x.block < W.heap.size := by obtain ⟨m, hm⟩ := k1; exact DataW.trod_lt m _ _ _ hm
  obtain ⟨z1, w1⟩ : ∃ ss, IsStrs W a1 len1 cap1 ss := by
    obtain ⟨fuel, hf⟩ := h1
    rcases open_strings Try.underlying22 Try.underlying9 (by kernel_rfl) hf with ⟨hcs, _⟩ | ⟨x, l, c, zs, hcs, _, hl, hm, hz, _, hcell, hwz⟩
    · simp [Value.cells] at hcs
      obtain ⟨rfl, rfl, rfl⟩ := hcs
      exact ⟨[], .inl ⟨rfl, rfl, rfl, rfl⟩⟩
    · simp [Value.cells] at hcs
      obtain ⟨rfl, rfl, rfl⟩ := hcs
      exact ⟨zs, .inr ⟨_, rfl, hl, hm, by simpa using hz, hcell, hwz⟩⟩
  clear hA0 hval0
  refine (walk a0 a1 len1 cap1 (fun j => z1.getD j ByteArray.empty) W w0 w1.len w1.nil w1.sizes w1.strs).mono fun e W' ⟨he, bel⟩ => ?_
  subst he
  exact ⟨_, rfl, _, _, _, [], _, [], hW', trodAll_mk1 (shut_bool Try.underlying4 _), (trodAll_cons_mk (shut_string Try.underlying9 w0) (trodAll_cons_mk (Below.trod laidOut (by kernel_rfl) (of_decide_eq_true (by kernel_rfl)) k1 bel lt1) trodAll_mk0)), rfl, bel.frame _, fun h => by cases h⟩

theorem over : Rows.fnDecisionStringDecodesRow.holds Try.pinned (OpenSpec.ofChange Rows.fnDecisionStringDecodesSpec) :=
  OpenClaim.holds_of_wide 4 Try.f4 rfl rfl rfl rfl rfl rfl rfl ⟨rfl, rfl, rfl, rfl, rfl⟩ rfl rfl rfl rfl rfl (by kernel_rfl) Try.func4 (by kernel_rfl)
    (of_decide_eq_true (by kernel_rfl)) (by unfold Func.isWrapper; first | (rw [if_pos (by decide +kernel)]; kernel_rfl) | (rw [if_neg (by decide +kernel)]; exact ⟨rfl, rfl⟩))
    (fun os started H enc _ => lifted os started H enc)

/-- THE STATEMENT. -/
theorem proved : Rows.FnDecisionStringDecodesSaid := over

end Go.Proofs.Qxb6603843a.fnDecisionStringDecodes
