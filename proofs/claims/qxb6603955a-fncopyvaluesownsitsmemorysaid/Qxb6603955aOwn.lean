import Derived.Test.Qxb6603955aRows
import Derived.Test.Qxb6603955aRf
import Derived.OpenShut
import Derived.ShutString
import Derived.ChangeOld
import Derived.Below
namespace Go.Proofs.Qxb6603955a.fnCopyValuesOwnsItsMemory
open Go.ChangeShapes Go.WideShapes Go.ChangeAt Go.RowKit Go.Deep Cv
set_option linter.unusedVariables false

/-- The complement of a byte. -/
def comp (x : Int) : Int := bits BinOp.xor IntKind.u8 (if IntKind.u8.signed = true then -1 else IntKind.u8.max) x

/-- byte(i). -/
def byt (i : Nat) : Int := (i : Int) % 256

set_option maxRecDepth 100000 in
set_option maxHeartbeats 8000000 in
theorem walk_some (bl ol n cap : Nat) (A : Nat → Option Addr) (L C b o : Nat → Nat) (X : Nat → Nat → Int) (w : World) (hn : n ≤ maxLen) (hL : ∀ j, j < n → L j ≤ maxLen)
    (h : RowB w bl ol n A L C b o X) (hin : Within 0 w.heap.size bl n L b) (hnil : ∀ j, j < n → A j = none → L j = 0) :
    Calls Try.prog 4 #[.slice (some ⟨bl, ol, none⟩) n cap] w fun e w' => e = .returned (.bool true) ∧ Below w.heap.size w w' := by
  have b6 := bytes11_some bl ol n cap A L C w hn hL h.outer
  unfold maxLen at hn hL
  go_enter Try.func4, Try.ntmps4
  go_wp2_with fail
  refine b6.mono ?_
  rintro e w' ⟨r, rfl, hw, hr⟩
  clear b6
  obtain rfl := hw.symm
  cases r with
  | false =>
    go_wp2
    go_ret
    exact ⟨rfl, Below.refl _ _⟩
  | true =>
    have hsum := hr rfl
    clear hr hw
    have hLs : ∀ j, j < n → L j ≤ 1048576 := fun j hj => by have := sumL_le L hj; omega
    have b7 := fits7_some bl ol n cap A L C w (by omega) hLs h.outer
    go_wp2_with fail
    refine b7.mono ?_
    rintro e w' ⟨r, rfl, hw, -⟩
    clear b7
    obtain rfl := hw.symm
    cases r with
    | false =>
      go_wp2
      go_ret
      exact ⟨rfl, Below.refl _ _⟩
    | true =>
      clear hw
      have b8 := clone8_some bl ol n cap A L C b o X w (by omega) hLs h hin hnil
      go_wp2_with fail
      refine b8.mono ?_
      rintro e w1 ⟨rfl, hc1⟩
      clear b8
      have hnil1 : ∀ j, j < n → clAddr w.heap.size A j = none → L j = 0 := fun j hj he => hnil j hj (clAddr_none he)
      have hb1 := hc1.bel
      have b8 := clone8_some w.heap.size 0 n n (clAddr w.heap.size A) L L _ _ X w1 (by omega) hLs (hc1.row hnil) ((hc1.within hnil).mono (Nat.zero_le _) (Nat.le_refl _)) hnil1
      go_wp2_with fail
      refine b8.mono ?_
      rintro e w2 ⟨rfl, hc2⟩
      clear b8
      have hb2 := hc2.bel
      have b9 := zz9_some w.heap.size 0 n n (clAddr w.heap.size A) L L _ _ X w2 (by omega) (by omega) (fun _ _ => Nat.le_refl _) ((hc1.row hnil).below (hc1.within hnil) hb2) ((hc1.within hnil).mono (Nat.zero_le _) hb2.size) hnil1
      go_wp2_with fail
      refine b9.mono ?_
      rintro e w3 ⟨rfl, D, hcp⟩
      clear b9
      have hM := M3.start hnil hc1 hc2 hcp
      have hB : Below w.heap.size w w3 := hb1.trans ((hb2.mono hb1.size).trans (hcp.bel.mono (Nat.le_trans hb1.size hb2.size)))
      have hDn : ∀ r, r < n → (D r).isNone = (clAddr w1.heap.size (clAddr w.heap.size A) r).isNone := fun r hr => by rw [clAddr_isNone]; exact hcp.nil r hr
      have hB0 : w.heap.size ≤ w2.heap.size := Nat.le_trans hb1.size hb2.size
      clear hcp hc1 hc2 hb1 hb2 h hin hnil hnil1
      generalize w1.heap.size = B1 at *
      generalize w2.heap.size = B2 at *
      generalize clAddr w.heap.size A = Av at *
      generalize clAddr B1 Av = Aw at *
      generalize (fun r => w.heap.size + 1 + nn A r) = iv at *
      generalize (fun r => B1 + 1 + nn Av r) = iw at *
      go_wp2_with fail
      go_loopw [5] (fun i wr => ∃ k : Nat, k ≤ n ∧ i = .int .i64 k ∧ M3 wr n L w.heap.size B1 B2 Av Aw D iv iw X X X ∧ Below w.heap.size w wr) (fun i _ => n - (intOf i).toNat)
      case atStart => exact ⟨0, Nat.zero_le _, rfl, hM, hB⟩
      case round =>
        clear hM hB
        obtain ⟨k, hk, rfl, hM, hB⟩ := hrel
        obtain ⟨wA, rfl⟩ : ∃ wA, wA = wr := ⟨_, rfl⟩
        by_cases hlt : k < n
        · have hcg := hM.g.outer k hlt
          have hcu := hM.u.outer k hlt
          rw [Nat.zero_add] at hcg hcu
          have hlt' : (k : Int) < (n : Int) := by omega
          have B10 : Hid (∀ wx : World, wx.heap = wA.heap → Calls Try.prog 10 #[.slice (D k) (L k) (L k), .slice (Aw k) (L k) (L k)] wx fun e w' => e = .returned (.bool true) ∧ ∃ q, w' = wx.drewN q) := fun wx hx =>
            same10 _ _ _ _ _ _ (L k) _ _ (X k) _ (hLs k hlt) (hM.g.addr k hlt) (hM.u.addr k hlt) (fun c hc => (cell_heap hx _).trans (hM.g.cells k c hlt hc)) (fun c hc => (cell_heap hx _).trans (hM.u.cells k c hlt hc))
          go_wp2_with fail
          go_quiet ((go_at_call 10; exact Calls.quiet_of (B10.out _ rfl)))
          go_wp2_with fail
          go_roundw
          case rel => exact ⟨k + 1, by omega, by go_num, hM.drewN _, below_drewN hB _⟩
          case measure => simp [intOf]; omega
        · obtain rfl : n = k := by omega
          clear hlt hk
          go_wp2_with fail
          go_loopw [6] (fun i wr => ∃ k : Nat, k ≤ n ∧ i = .int .i64 k ∧ M3 wr n L w.heap.size B1 B2 Av Aw D iv iw (mixV comp X k 0) X X ∧ Below w.heap.size w wr) (fun i _ => n - (intOf i).toNat)
          case atStart => exact ⟨0, Nat.zero_le _, rfl, hM.congrV (fun r c _ _ => mixV_zero comp X r c), hB⟩
          case round =>
            clear hM hB
            obtain ⟨i, hi, rfl, hM, hB⟩ := hrel
            obtain ⟨wB, rfl⟩ : ∃ wB, wB = wr := ⟨_, rfl⟩
            by_cases hlt : i < n
            · have hcv := hM.v.outer i hlt
              have hcu := hM.u.outer i hlt
              rw [Nat.zero_add] at hcv hcu
              obtain ⟨xv, hxv⟩ : ∃ x, x = Av i := ⟨_, rfl⟩
              obtain ⟨xu, hxu⟩ : ∃ x, x = Aw i := ⟨_, rfl⟩
              have HV : Hid (0 < L i → xv = some ⟨iv i, 0, none⟩) := fun hp => hxv.trans (hM.v.addr i hlt hp)
              have HU : Hid (0 < L i → xu = some ⟨iw i, 0, none⟩) := fun hp => hxu.trans (hM.u.addr i hlt hp)
              rw [← hxv] at hcv
              rw [← hxu] at hcu
              have hLi := hLs i hlt
              clear hxv hxu
              go_wp2_with fail
              go_loopw [9] (fun j wr => ∃ k : Nat, k ≤ L i ∧ j = .int .i64 k ∧ M3 wr n L w.heap.size B1 B2 Av Aw D iv iw (mixV comp X i k) X X ∧ Below w.heap.size w wr) (fun j _ => L i - (intOf j).toNat)
              case atStart => exact ⟨0, Nat.zero_le _, rfl, hM, hB⟩
              case round =>
                clear hM hB hcv hcu
                obtain ⟨k, hk, rfl, hM, hB⟩ := hrel
                obtain ⟨wC, rfl⟩ : ∃ wC, wC = wr := ⟨_, rfl⟩
                by_cases hkl : k < L i
                · have hp : 0 < L i := by omega
                  have ev := HV.out hp
                  have eu := HU.out hp
                  subst ev
                  subst eu
                  have cu := hM.u.cells i k hlt hkl
                  have cv := hM.v.cells i k hlt hkl
                  have fv := hM.wv.free i k hlt hkl
                  rw [Nat.zero_add] at cu cv fv
                  have hN := hM.setV hlt hkl (comp (X i k))
                  rw [Nat.zero_add] at hN
                  have HN : Hid _ := hN.congrV (fun r c _ _ => mixV_step comp X i k r c)
                  have hB2 : Hid _ := hB.setCell (p := ⟨iv i, k, none⟩) (hM.nv.inner i hlt hp).1 (.int .u8 (comp (X i k)))
                  clear hp hN
                  go_wp2_with fail
                  go_roundw
                  case rel => exact ⟨k + 1, by omega, by go_num, HN.out, hB2.out⟩
                  case measure => simp [intOf]; omega
                · obtain rfl : L i = k := by omega
                  have HN : Hid _ := hM.congrV (fun r c _ hc => mixV_row comp X L i r c hc)
                  clear hkl hk
                  go_wp2_with fail
                  go_roundw
                  case rel => exact ⟨i + 1, by omega, by go_num, HN.out, hB⟩
                  case measure => simp [intOf]; omega
            · obtain rfl : n = i := by omega
              clear hlt hi
              have hM' := hM.congrV (fun r c hr _ => mixV_all comp X n r c hr)
              clear hM
              go_wp2_with fail
              go_loopw [10] (fun i wr => ∃ k : Nat, k ≤ n ∧ i = .int .i64 k ∧ M3 wr n L w.heap.size B1 B2 Av Aw D iv iw (fun r c => comp (X r c)) X X ∧ Below w.heap.size w wr) (fun i _ => n - (intOf i).toNat)
              case atStart => exact ⟨0, Nat.zero_le _, rfl, hM', hB⟩
              case round =>
                clear hM' hB
                obtain ⟨k, hk, rfl, hM, hB⟩ := hrel
                obtain ⟨wD, rfl⟩ : ∃ wD, wD = wr := ⟨_, rfl⟩
                by_cases hlt : k < n
                · have hcg := hM.g.outer k hlt
                  have hcu := hM.u.outer k hlt
                  rw [Nat.zero_add] at hcg hcu
                  have hlt' : (k : Int) < (n : Int) := by omega
                  have hd := hDn k hlt
                  have hq1 := fun wx => Lib.run_eql_slice_nil (P := Try.prog) wx 25 5 (D k) (L k) (L k) 0 0 Try.underlying25
                  have hq2 := fun wx => Lib.run_eql_slice_nil (P := Try.prog) wx 25 5 (Aw k) (L k) (L k) 0 0 Try.underlying25
                  have B10 : Hid (∀ wx : World, wx.heap = wD.heap → Calls Try.prog 10 #[.slice (D k) (L k) (L k), .slice (Aw k) (L k) (L k)] wx fun e w' => e = .returned (.bool true) ∧ ∃ q, w' = wx.drewN q) := fun wx hx =>
                    same10 _ _ _ _ _ _ (L k) _ _ (X k) _ (hLs k hlt) (hM.g.addr k hlt) (hM.u.addr k hlt) (fun c hc => (cell_heap hx _).trans (hM.g.cells k c hlt hc)) (fun c hc => (cell_heap hx _).trans (hM.u.cells k c hlt hc))
                  go_wp2_with fail
                  go_quiet ((go_at_call 10; exact Calls.quiet_of (B10.out _ rfl)))
                  go_wp2_with fail
                  go_roundw
                  case rel => exact ⟨k + 1, by omega, by go_num, hM.drewN _, below_drewN hB _⟩
                  case measure => simp [intOf]; omega
                · obtain rfl : n = k := by omega
                  clear hlt hk
                  go_wp2_with fail
                  go_loopw [11] (fun i wr => ∃ k : Nat, k ≤ n ∧ i = .int .i64 k ∧ M3 wr n L w.heap.size B1 B2 Av Aw D iv iw (fun r c => comp (X r c)) X (mixG byt X k 0) ∧ Below w.heap.size w wr) (fun i _ => n - (intOf i).toNat)
                  case atStart => exact ⟨0, Nat.zero_le _, rfl, hM.congrG (fun r c _ _ => mixG_zero byt X r c), hB⟩
                  case round =>
                    clear hM hB
                    obtain ⟨i, hi, rfl, hM, hB⟩ := hrel
                    obtain ⟨wE, rfl⟩ : ∃ wE, wE = wr := ⟨_, rfl⟩
                    by_cases hlt : i < n
                    · have hcg := hM.g.outer i hlt
                      rw [Nat.zero_add] at hcg
                      obtain ⟨xg, hxg⟩ : ∃ x, x = D i := ⟨_, rfl⟩
                      have HG : Hid (0 < L i → xg = some ⟨B2, sumL L i, none⟩) := fun hp => hxg.trans (hM.g.addr i hlt hp)
                      rw [← hxg] at hcg
                      have hLi := hLs i hlt
                      clear hxg
                      go_wp2_with fail
                      go_loopw [13] (fun j wr => ∃ k : Nat, k ≤ L i ∧ j = .int .i64 k ∧ M3 wr n L w.heap.size B1 B2 Av Aw D iv iw (fun r c => comp (X r c)) X (mixG byt X i k) ∧ Below w.heap.size w wr) (fun j _ => L i - (intOf j).toNat)
                      case atStart => exact ⟨0, Nat.zero_le _, rfl, hM, hB⟩
                      case round =>
                        clear hM hB hcg
                        obtain ⟨k, hk, rfl, hM, hB⟩ := hrel
                        obtain ⟨wF, rfl⟩ : ∃ wF, wF = wr := ⟨_, rfl⟩
                        by_cases hkl : k < L i
                        · have hp : 0 < L i := by omega
                          have eg := HG.out hp
                          subst eg
                          have cg := hM.g.cells i k hlt hkl
                          have fg := hM.wg.free i k hlt hkl
                          have HN : Hid _ := (hM.setG hlt hkl (byt i)).congrG (fun r c _ _ => mixG_step byt X i k r c)
                          have hB2 : Hid _ := hB.setCell (p := ⟨B2, sumL L i + k, none⟩) hB0 (.int .u8 (byt i))
                          clear hp
                          go_wp2_with fail
                          go_roundw
                          case rel => exact ⟨k + 1, by omega, by go_num, HN.out, hB2.out⟩
                          case measure => simp [intOf]; omega
                        · obtain rfl : L i = k := by omega
                          have HN : Hid _ := hM.congrG (fun r c _ hc => mixG_row byt X L i r c hc)
                          clear hkl hk
                          go_wp2_with fail
                          go_roundw
                          case rel => exact ⟨i + 1, by omega, by go_num, HN.out, hB⟩
                          case measure => simp [intOf]; omega
                    · obtain rfl : n = i := by omega
                      clear hlt hi
                      have hM' := hM.congrG (fun r c hr _ => mixG_all byt X n r c hr)
                      clear hM
                      go_wp2_with fail
                      go_loop [14] (fun i => ∃ k : Nat, k ≤ n ∧ i = .int .i64 k) (fun i => n - (intOf i).toNat)
                      case atStart => exact ⟨0, Nat.zero_le _, rfl⟩
                      case round =>
                        obtain ⟨i, hi, rfl⟩ := hrel
                        by_cases hlt : i < n
                        · have hcg := hM'.g.outer i hlt
                          rw [Nat.zero_add] at hcg
                          obtain ⟨xg, hxg⟩ : ∃ x, x = D i := ⟨_, rfl⟩
                          have HG : Hid (0 < L i → xg = some ⟨B2, sumL L i, none⟩) := fun hp => hxg.trans (hM'.g.addr i hlt hp)
                          rw [← hxg] at hcg
                          have hLi := hLs i hlt
                          clear hxg
                          go_wp2_with fail
                          go_loop [16] (fun j => ∃ k : Nat, k ≤ L i ∧ j = .int .i64 k) (fun j => L i - (intOf j).toNat)
                          case atStart => exact ⟨0, Nat.zero_le _, rfl⟩
                          case round =>
                            clear hcg
                            obtain ⟨k, hk, rfl⟩ := hrel
                            by_cases hkl : k < L i
                            · have hp : 0 < L i := by omega
                              have eg := HG.out hp
                              subst eg
                              have cg : wE.cell? ⟨B2, sumL L i + k, none⟩ = some (.int .u8 ((i : Int) % 256)) := hM'.g.cells i k hlt hkl
                              clear hp
                              go_wp2_with fail
                              go_round
                              case rel => exact ⟨k + 1, by omega, by go_num⟩
                              case measure => simp [intOf]; omega
                            · obtain rfl : L i = k := by omega
                              clear hkl hk
                              go_wp2_with fail
                              go_round
                              case rel => exact ⟨i + 1, by omega, by go_num⟩
                              case measure => simp [intOf]; omega
                        · obtain rfl : n = i := by omega
                          clear hlt hi
                          go_wp2_with fail
                          go_loopw [17] (fun i wr => ∃ k q : Nat, k ≤ n ∧ i = .int .i64 k ∧ wr = wE.drewN q) (fun i _ => n - (intOf i).toNat)
                          case atStart => exact ⟨0, 0, Nat.zero_le _, rfl, rfl⟩
                          case round =>
                            obtain ⟨i, q, hi, rfl, hwr⟩ := hrel
                            subst hwr
                            by_cases hlt : i < n
                            · have hcv := hM'.v.outer i hlt
                              have hcu := hM'.u.outer i hlt
                              rw [Nat.zero_add] at hcv hcu
                              obtain ⟨xv, hxv⟩ : ∃ x, x = Av i := ⟨_, rfl⟩
                              obtain ⟨xu, hxu⟩ : ∃ x, x = Aw i := ⟨_, rfl⟩
                              have HV : Hid (0 < L i → xv = some ⟨iv i, 0, none⟩) := fun hp => hxv.trans (hM'.v.addr i hlt hp)
                              have HU : Hid (0 < L i → xu = some ⟨iw i, 0, none⟩) := fun hp => hxu.trans (hM'.u.addr i hlt hp)
                              rw [← hxv] at hcv
                              rw [← hxu] at hcu
                              have hLi := hLs i hlt
                              clear hxv hxu
                              go_wp2_with fail
                              go_loopw [20] (fun j wr => ∃ k q : Nat, k ≤ L i ∧ j = .int .i64 k ∧ wr = wE.drewN q) (fun j _ => L i - (intOf j).toNat)
                              case atStart => exact ⟨0, q, Nat.zero_le _, rfl, rfl⟩
                              case round =>
                                clear hcv hcu
                                obtain ⟨k, q2, hk, rfl, hwr⟩ := hrel
                                subst hwr
                                by_cases hkl : k < L i
                                · have hp : 0 < L i := by omega
                                  have ev := HV.out hp
                                  have eu := HU.out hp
                                  subst ev
                                  subst eu
                                  have cu := hM'.u.cells i k hlt hkl
                                  have cv : wE.cell? ⟨iv i, 0 + k, none⟩ = some (.int .u8 (bits BinOp.xor IntKind.u8 (if IntKind.u8.signed = true then -1 else IntKind.u8.max) (X i k))) := hM'.v.cells i k hlt hkl
                                  rw [Nat.zero_add] at cu cv
                                  have hkl' : (k : Int) < (L i : Int) := by omega
                                  clear hp
                                  go_wp2_with fail
                                  go_quiet (fail)
                                  go_wp2_with fail
                                  go_roundw
                                  case rel => exact ⟨k + 1, _, by omega, by go_num, rfl⟩
                                  case measure => simp [intOf]; omega
                                · obtain rfl : L i = k := by omega
                                  clear hkl hk
                                  go_wp2_with fail
                                  go_roundw
                                  case rel => exact ⟨i + 1, _, by omega, by go_num, rfl⟩
                                  case measure => simp [intOf]; omega
                            · obtain rfl : n = i := by omega
                              clear hlt hi
                              go_wp2_with fail
                              go_ret
                              exact ⟨rfl, below_drewN hB _⟩

end Go.Proofs.Qxb6603955a.fnCopyValuesOwnsItsMemory
