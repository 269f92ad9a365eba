import Derived.Test.Qxb6603859aPe
namespace Go.Proofs.Qxb6603859a
open Go.RowKit Go.Deep Go.Maps
set_option linter.unusedVariables false

theorem swp_tl (U : Nat → ByteArray) (j : Nat) : swp (fun p => tl (U p)) j = fun p => tl (swp U j p) := by
  funext p; unfold swp; split
  · rfl
  · split <;> rfl

set_option maxRecDepth 100000 in
set_option maxHeartbeats 8000000 in
theorem imp4_some (b o n cap : Nat) (S : Nat → ByteArray) (w : World) (hn : n ≤ maxLen) (hb : b < w.heap.size)
    (hS : ∀ j, j < n → (S j).size ≤ maxLen) (hc : ∀ j, j < n → w.cell? ⟨b, o + j, none⟩ = some (.string (S j))) :
    Calls Try.prog 4 #[.slice (some ⟨b, o, none⟩) n cap] w fun e w' => e = .returned (.bool true) ∧ Below w.heap.size w w' := by
  have b7 := bytes7_some b o n cap S w hn hS hc
  unfold maxLen at hn hS
  go_enter Try.func4, Try.ntmps4
  go_wp2_with fail
  refine b7.mono ?_
  rintro e w' ⟨r, rfl, hw, hr⟩
  obtain rfl := hw.symm
  clear b7
  cases r with
  | false =>
    go_wp2_with fail
    go_ret
    exact ⟨rfl, Below.refl _ _⟩
  | true =>
    have hsum := hr rfl
    clear hr hw
    have hSs : ∀ j, j < n → (S j).size ≤ 1048576 := fun j hj => by have := sumLen_le S hj; omega
    by_cases hn4 : n ≤ 4096
    · have hn5 : decide ((4096 : Int) < (n : Int)) = false := by simp; omega
      go_wp2_with fail
      go_loop [3, 4] (fun t i => ∃ k m : Nat, k ≤ n ∧ i = .int .i64 k ∧ t = .int .i64 m ∧ m ≤ 1048576) (fun _ i => n - (intOf i).toNat)
      case atStart => exact ⟨0, 16 * n, Nat.zero_le _, rfl, by simp, by omega⟩
      case round =>
        obtain ⟨k, m, hk, rfl, rfl, hle⟩ := hrel
        by_cases hlt : k < n
        · have hck := hc k hlt
          have hSk := hSs k hlt
          go_wp2_with fail
          · go_ret
            exact ⟨rfl, Below.refl _ _⟩
          go_round
          case rel => exact ⟨k + 1, m + (S k).size, by omega, by go_num, by go_num, by omega⟩
          case measure => simp [intOf]; omega
        · obtain rfl : n = k := by omega
          clear hlt hk
          have hmk := fun wx => run_make_row' (P := Try.prog) 25 9 (.string ByteArray.empty) 16 Try.underlying25 info9 rfl .i64 .i64 n (by omega) (by omega) wx
          have hnil := fun wx => run_neq_slice_nil_any (P := Try.prog) wx 25 9 (some ⟨b, o, none⟩) n cap 0 0 Try.underlying25
          go_wp2_with fail
          go_loopw [6] (fun i wr => ∃ k : Nat, k ≤ n ∧ i = .int .i64 k ∧ Below w.heap.size w wr ∧ wr.rowIs w.heap.size 9 n (fillTo S k) ∧ wr.heap.size = w.heap.size + 1) (fun i _ => n - (intOf i).toNat)
          case atStart => exact ⟨0, Nat.zero_le _, rfl, (Below.refl _ _).alloc (Nat.le_refl _) _, (World.rowIs_made w _ n 9).congr (fun j _ => fillTo_zero S j), by simp⟩
          case round =>
            obtain ⟨k, hk, rfl, hbel, hrow, hsz⟩ := hrel
            have HSZ : Hid _ := hsz
            clear hsz hmk hnil
            by_cases hlt : k < n
            · have hck : wr.cell? ⟨b, o + k, none⟩ = some (.string (S k)) := (hbel.cell (p := ⟨b, o + k, none⟩) hb).trans (hc k hlt)
              have hf := hrow.frozen k
              have hcc := hrow.cell hlt
              go_wp2_with fail
              go_roundw
              case rel => exact ⟨k + 1, by omega, by go_num, hbel.setCell (Nat.le_refl _) _, (hrow.set k _).congr (fun j _ => fillTo_succ S k j), by rw [nblk_setCell]; exact HSZ.out⟩
              case measure => simp [intOf]; omega
            · obtain rfl : n = k := by omega
              clear hlt hk
              have hrow' := hrow.congr (fun j hj => fillTo_full S n j hj)
              clear hrow
              obtain ⟨wA, rfl⟩ : ∃ wA, wA = wr := ⟨_, rfl⟩
              have hmk0 := fun wx => make0 n (by omega) wx
              have hstrs : Strs wA (some ⟨w.heap.size, 0, none⟩) n S := .inr ⟨_, _, rfl, hrow'.lt, fun j hj => by rw [Nat.zero_add]; exact hrow'.cell hj⟩
              have hbA : w.heap.size < wA.heap.size := hrow'.lt
              obtain ⟨i0, hi, hz0, hz1, hz2⟩ := info_parts info9
              go_wp2_with fail
              go_loopw [7, 8] (fun v i wr => ∃ k : Nat, k ≤ n ∧ i = .int .i64 k ∧ v = .slice (some ⟨wA.heap.size, 0, none⟩) (Vs S k).length n ∧ wr.ownsRow wA.heap.size 9 1 (.slice (some ⟨wA.heap.size, 0, none⟩) (Vs S k).length n) (Vs S k).length ((Vs S k).map Value.string) ∧ Below wA.heap.size wA wr) (fun _ i _ => n - (intOf i).toNat)
              case atStart => exact ⟨0, Nat.zero_le _, rfl, rfl, owns_made wA _ n (Nat.le_refl _) (by omega), (Below.refl _ _).alloc (Nat.le_refl _) _⟩
              case round =>
                obtain ⟨k, hk, rfl, rfl, hown, hB⟩ := hrel
                clear hmk0
                have hvl := Vs_length S k
                by_cases hlt : k < n
                · have hck : wr.cell? ⟨w.heap.size, k, none⟩ = some (.string (S k)) := (hB.cell (p := ⟨w.heap.size, k, none⟩) hbA).trans (hrow'.cell hlt)
                  by_cases h48 : (S k).size = 48
                  · have hl' : (((S k).size : Int) == 48) = true := by simp; omega
                    have HV : Hid (Vs S (k + 1) = Vs S k ++ [S k]) := by show (if _ then _ else _) = _; rw [if_pos h48]
                    clear h48
                    go_wp2_with (at_builtin; refine wpList_append_fits _ rfl (.tmp 79) (.tmp 84) 25 rfl wA.heap.size 9 i0 1 Try.underlying25 hi hz1 wA.heap.size (Vs S k).length n ((Vs S k).map Value.string) rfl (hown.alloc _) ⟨wr.heap.size, 0, none⟩ 1 1 [.string (S k)] rfl rfl (cell_one_new _ _ _) (by simp [Value.oneCell']) (by omega) ?_; intro w3 hown3 hg3)
                    go_roundw
                    case rel => exact ⟨k + 1, by omega, by go_num, by rw [HV.out]; simp, by rw [HV.out]; simpa using hown3, (hB.alloc hB.size _).grown hg3 (by have := hB.size; simp; omega) (fun q hq => by cases hq; exact Nat.le_refl _)⟩
                    case measure => simp [intOf]; omega
                  · have hl' : (((S k).size : Int) == 48) = false := by simp; omega
                    have HV : Hid (Vs S (k + 1) = Vs S k) := by show (if _ then _ else _) = _; rw [if_neg h48]
                    clear h48
                    go_wp2_with fail
                    go_roundw
                    case rel => exact ⟨k + 1, by omega, by go_num, by rw [HV.out], by rw [HV.out]; exact hown, hB⟩
                    case measure => simp [intOf]; omega
                · obtain rfl : n = k := by omega
                  clear hlt hk
                  obtain ⟨U0, m, hm, hV0, HM⟩ : ∃ (U0 : Nat → ByteArray) (m : Nat), m = (Vs S n).length ∧ VRow wr wA.heap.size m U0 ∧ Hid (∀ x, (∃ p, p < m ∧ U0 p = x) ↔ ∃ j, j < n ∧ S j = x ∧ x.size = 48) := by
                    refine ⟨fun p => (Vs S n).getD p ByteArray.empty, _, rfl, VRow.of_owns hown rfl, fun x => ?_⟩
                    rw [← Vs_mem S n x]
                    constructor
                    · rintro ⟨p, hp, rfl⟩; simp only [List.getD, List.getElem?_eq_getElem hp]; exact List.getElem_mem hp
                    · intro hx; obtain ⟨p, hp, e⟩ := List.mem_iff_getElem.1 hx; exact ⟨p, hp, by simp only [List.getD, List.getElem?_eq_getElem hp]; exact e⟩
                  clear hown
                  rw [← hm] at hvl ⊢
                  clear hm
                  obtain ⟨wB, rfl⟩ : ∃ wB, wB = wr := ⟨_, rfl⟩
                  go_wp2_with fail
                  go_loopw [9] (fun i wr => ∃ (i' : Nat) (U : Nat → ByteArray), i = .int .i64 i' ∧ 1 ≤ i' ∧ (i' ≤ m ∨ i' = 1) ∧ VRow wr wA.heap.size m U ∧ SameTo U U0 m ∧ SortedTo (fun p => tl (U p)) i' ∧ Below wA.heap.size wA wr) (fun i _ => m - (intOf i).toNat)
                  case atStart => exact ⟨1, U0, rfl, Nat.le_refl _, .inr rfl, hV0, SameTo.refl _ _, SortedTo.one _, hB⟩
                  case round =>
                    clear hV0 hB
                    obtain ⟨i, U, rfl, hi1, hi2, hV, hSm, hSo, hB⟩ := hrel
                    have HSZ48 : Hid (∀ (U : Nat → ByteArray), SameTo U U0 m → ∀ p, p < m → (U p).size = 48) := fun U hs p hp => by
                      obtain ⟨_, _, _, h⟩ := (HM.out (U p)).1 ((hs (U p)).1 ⟨p, hp, rfl⟩)
                      exact h
                    by_cases hlt : i < m
                    · clear hi2
                      go_wp2_with fail
                      go_loopw [10] (fun jj wr => ∃ (j : Nat) (U : Nat → ByteArray), jj = .int .i64 j ∧ j ≤ i ∧ VRow wr wA.heap.size m U ∧ SameTo U U0 m ∧ Ins (fun p => tl (U p)) i j ∧ Below wA.heap.size wA wr) (fun jj _ => (intOf jj).toNat)
                      case atStart => exact ⟨i, U, rfl, Nat.le_refl _, hV, hSm, Ins.start hSo, hB⟩
                      case round =>
                        clear hV hSm hSo hB
                        obtain ⟨j, U, rfl, hj, hV, hSm, hIn, hB⟩ := hrel
                        obtain ⟨wC, rfl⟩ : ∃ wC, wC = wr := ⟨_, rfl⟩
                        by_cases hj0 : j = 0
                        · subst hj0
                          have hD := hIn.done (.inl rfl)
                          go_wp2_with fail
                          go_quiet (fail)
                          go_wp2_with fail
                          go_roundw
                          case rel => exact ⟨i + 1, U, by go_num, by omega, by omega, hV.drewN _, hSm, hD, below_drewN hB _⟩
                          case measure => simp [intOf]; omega
                        · have hjp : (0 : Int) < (j : Int) := by omega
                          have hjn : 0 < j := by omega
                          have hc1 := hV.cells j (by omega)
                          have hc2 := hV.cells (j - 1) (by omega)
                          have hf1 := hV.free j
                          have hf2 := hV.free (j - 1)
                          have hjm : (j : Int) < (m : Int) := by omega
                          have h8 := fun wx => less8 (U j) (U (j - 1)) wx (HSZ48.out U hSm j (by omega)) (HSZ48.out U hSm (j - 1) (by omega))
                          have H8 : Hid _ := h8
                          clear h8
                          by_cases hl : lessL (tl (U j)) (tl (U (j - 1))) = true
                          · have hIn' := hIn.step (by omega) hl
                            have hSm' := hSm.swap (show 0 < j by omega) (show j < m by omega)
                            go_wp2_with fail
                            go_quiet ((go_at_call 8; exact Calls.quiet_of_same (H8.out _)))
                            go_wp2_with fail
                            go_roundw
                            case rel => exact ⟨j - 1, swp U j, by go_num, by omega, (hV.drewN _).swap (by omega) (by omega), hSm', by rw [← swp_tl]; exact hIn', ((below_drewN hB _).setCell (p := ⟨wA.heap.size, j, none⟩) (Nat.le_refl _) _).setCell (p := ⟨wA.heap.size, j - 1, none⟩) (Nat.le_refl _) _⟩
                            case measure => simp [intOf]; omega
                          · have hl' : lessL (tl (U j)) (tl (U (j - 1))) = false := by simpa using hl
                            have hD := hIn.done (.inr hl')
                            clear hl
                            go_wp2_with fail
                            go_quiet ((go_at_call 8; exact Calls.quiet_of_same (H8.out _)))
                            go_wp2_with fail
                            go_roundw
                            case rel => exact ⟨i + 1, U, by go_num, by omega, by omega, hV.drewN _, hSm, hD, below_drewN hB _⟩
                            case measure => simp [intOf]; omega
                    · have hSo' : SortedTo (fun p => tl (U p)) m := fun p q h1 h2 => hSo p q h1 (by omega)
                      clear hSo hi1 hi2
                      obtain ⟨wC, rfl⟩ : ∃ wC, wC = wr := ⟨_, rfl⟩
                      have hrowC : Strs wC (some ⟨w.heap.size, 0, none⟩) n S := hstrs.below hB
                      have h9 := zz9 (some ⟨w.heap.size, 0, none⟩) n n S wC hn4 hSs hrowC
                      go_wp2_with fail
                      refine h9.mono ?_
                      rintro e w9 ⟨hB9, lo, bm, ss, mm, D, V, rfl, hbm, hnd, hmem, hG, hlo⟩
                      clear h9
                      have hV9 := hV.below hB9 hV.lt
                      have hBw : Below w.heap.size w w9 := hbel.trans ((hB.mono (by omega)).trans (hB9.mono (by have := hB.size; omega)))
                      have H48 : Hid (∀ p, p < m → (U p).size = 48) := HSZ48.out U hSm
                      have HSM : Hid _ := hSm
                      have HSO : Hid _ := hSo'
                      have HND : Hid _ := hnd
                      have HMEM : Hid _ := hmem
                      have hgv : wA.heap.size < w9.heap.size := hV9.lt
                      clear hSm hSo' hnd hmem hV hB hB9 HSZ48 hrowC hstrs hrow' hbel hlt
                      go_wp2_with fail
                      go_loopw [13, 14] (fun gr ii wr => ∃ (i : Nat) (Gs : List (List UInt8)), ii = .int .i64 i ∧ i ≤ m ∧ gr = .int .i64 (Gs.length : Nat) ∧ Gs.length ≤ i ∧ GI (fun p => tl (U p)) m i Gs ∧ Below w9.heap.size w9 wr) (fun _ ii _ => m - (intOf ii).toNat)
                      case atStart => exact ⟨0, [], rfl, Nat.zero_le _, rfl, Nat.le_refl _, GI.start _ _, Below.refl _ _⟩
                      case round =>
                        obtain ⟨i, Gs, rfl, him, rfl, hgl, hGI, hBr⟩ := hrel
                        obtain ⟨wD, rfl⟩ : ∃ wD, wD = wr := ⟨_, rfl⟩
                        by_cases hlt : i < m
                        · have hVD := hV9.below hBr hgv
                          have hci := hVD.cells i hlt
                          obtain ⟨gB, hgB⟩ : ∃ gB, (U i).extract 16 (U i).size = gB := ⟨_, rfl⟩
                          have HGB : Hid (tl gB = dig (tl (U i))) := by show _ = _; rw [← hgB]; exact toList_drop _
                          have h48i := H48.out i hlt
                          have hl16 : (16 : Int) ≤ ((U i).size : Int) := by omega
                          have HGS : Hid (gB.size ≤ maxLen) := by show _ ≤ _; rw [← hgB, ByteArray.size_extract]; unfold maxLen; omega
                          have hmk0 : ∀ wx, (Instr.makeSlice 25 (.int .i64 0) (.int .i64 ((m : Int) - (i : Int)))).run Try.prog wx = .ok (.slice (some ⟨wx.heap.size, 0, none⟩) 0 (m - i)) (wx.alloc (.cells (madeCells #[.string ByteArray.empty] (m - i)) 9)) := fun wx => by
                            rw [show (m : Int) - (i : Int) = ((m - i : Nat) : Int) by omega]; exact make0 (m - i) (by omega) wx
                          clear h48i
                          go_wp2_with fail
                          go_loopw [16, 17] (fun v jj wr => ∃ (j l : Nat) (ws : List ByteArray), jj = .int .i64 j ∧ i ≤ j ∧ j ≤ m ∧ v = .slice (some ⟨wD.heap.size, 0, none⟩) l (m - i) ∧ wr.ownsRow wD.heap.size 9 1 (.slice (some ⟨wD.heap.size, 0, none⟩) l (m - i)) l (ws.map Value.string) ∧ WI U i j (tl gB) ws ∧ Below wD.heap.size wD wr ∧ Hid (ws.length = l)) (fun _ jj _ => m - (intOf jj).toNat)
                          case atStart => exact ⟨i, 0, [], rfl, Nat.le_refl _, him, rfl, owns_made wD _ (m - i) (Nat.le_refl _) (by omega), WI.start _ _ _, (Below.refl _ _).alloc (Nat.le_refl _) _, rfl⟩
                          case round =>
                            obtain ⟨j, l, ws, rfl, hij, hjm, rfl, hown, hWI, hBj, HLEN⟩ := hrel
                            clear hmk0 hci hVD
                            obtain ⟨wE, rfl⟩ : ∃ wE, wE = wr := ⟨_, rfl⟩
                            have hBE : Below w9.heap.size w9 wE := hBr.trans (hBj.mono hBr.size)
                            have hVE := hV9.below hBE hgv
                            have hwl : l ≤ j - i := by have := hWI.len; have := HLEN.out; omega
                            by_cases hin : j < m ∧ dig (tl (U j)) = tl gB
                            · obtain ⟨hjlt, hdj⟩ := hin
                              have hcj := hVE.cells j hjlt
                              have h48j := H48.out j hjlt
                              have hl16j : (16 : Int) ≤ ((U j).size : Int) := by omega
                              have hej : (((U j).extract 16 (U j).size).toList == gB.toList) = true := by
                                rw [ByteArray.toList_eq, ByteArray.toList_eq, toList_drop]; simpa using hdj
                              have hjmI : (j : Int) < (m : Int) := by omega
                              by_cases hw0 : ws = []
                              · have hWI' := hWI.add HSO.out hij hjlt hdj (.inl hw0)
                                have HWI : Hid _ := hWI'
                                have hle : ((l : Int) == 0) = true := by have := HLEN.out; rw [hw0] at this; rw [← this]; rfl
                                clear hWI' hdj hw0 h48j
                                go_wp2_with fail
                                go_quiet (fail)
                                obtain ⟨wQ, hQ⟩ : ∃ wQ, wQ = wE.drewN nq := ⟨_, rfl⟩
                                rw [← hQ]
                                have hownQ : wQ.ownsRow wD.heap.size 9 1 (.slice (some ⟨wD.heap.size, 0, none⟩) l (m - i)) l (ws.map Value.string) := by rw [hQ]; exact hown
                                have hcjQ : wQ.cell? ⟨wA.heap.size, j, none⟩ = some (.string (U j)) := by rw [hQ]; exact hcj
                                have hBQ : Below wD.heap.size wD wQ := by rw [hQ]; exact below_drewN hBj _
                                clear hQ
                                go_wp2_with (at_builtin; refine wpList_append_fits _ rfl (.tmp 172) (.tmp 177) 25 rfl wD.heap.size 9 i0 1 Try.underlying25 hi hz1 wD.heap.size l (m - i) (ws.map Value.string) rfl (hownQ.alloc _) ⟨wQ.heap.size, 0, none⟩ 1 1 [.string (U j)] rfl rfl (cell_one_new _ _ _) (by simp [Value.oneCell']) (by omega) ?_; intro w3 hown3 hg3)
                                go_roundw
                                case rel => exact ⟨j + 1, l + 1, ws ++ [U j], by go_num, by omega, by omega, rfl, by simpa using hown3, HWI.out, (hBQ.alloc hBQ.size _).grown hg3 (by have := hBQ.size; simp; omega) (fun q hq => by cases hq; exact Nat.le_refl _), by show _ = _; rw [List.length_append, HLEN.out]; rfl⟩
                                case measure => simp [intOf]; omega
                              · have hij' : i < j := by
                                  rcases Nat.lt_or_ge i j with h | h
                                  · exact h
                                  · exfalso
                                    obtain rfl : i = j := by omega
                                    rcases List.exists_mem_of_ne_nil ws hw0 with ⟨y, hy⟩
                                    obtain ⟨p, h1, h2, _⟩ := (hWI.mem y).1 hy
                                    omega
                                have hwp : 0 < l := by have := List.length_pos_iff.2 hw0; have := HLEN.out; omega
                                have hwp1 : (1 : Int) ≤ (l : Int) := by omega
                                have hwp2 : l - 1 < l := by omega
                                have hle : ((l : Int) == 0) = false := by simp; omega
                                have hcw : wE.cell? ⟨wD.heap.size, l - 1, none⟩ = some (.string (U (j - 1))) := by
                                  have hlast := hWI.last hij'
                                  rw [List.getLast?_eq_getElem?] at hlast
                                  rw [hown.cellAt (l - 1) (by omega), List.getElem?_map, ← HLEN.out, hlast]; rfl
                                by_cases hx : U (j - 1) = U j
                                · have HWI : Hid _ := hWI.skip hij' hdj hx
                                  have hne : (!(U (j - 1)).toList == (U j).toList) = false := by rw [hx]; simp
                                  clear hdj hw0 h48j hx
                                  go_wp2_with fail
                                  go_quiet (fail)
                                  go_wp2_with fail
                                  go_roundw
                                  case rel => exact ⟨j + 1, l, ws, by go_num, by omega, by omega, rfl, hown, HWI.out, below_drewN hBj _, HLEN⟩
                                  case measure => simp [intOf]; omega
                                · have HWI : Hid _ := hWI.add HSO.out hij hjlt hdj (.inr hx)
                                  have hne : (!(U (j - 1)).toList == (U j).toList) = true := by
                                    rw [ByteArray.toList_eq, ByteArray.toList_eq]
                                    simpa using fun e => hx (tl_inj e)
                                  clear hdj hw0 h48j hx
                                  go_wp2_with fail
                                  go_quiet (fail)
                                  obtain ⟨wQ, hQ⟩ : ∃ wQ, wQ = wE.drewN nq := ⟨_, rfl⟩
                                  rw [← hQ]
                                  have hownQ : wQ.ownsRow wD.heap.size 9 1 (.slice (some ⟨wD.heap.size, 0, none⟩) l (m - i)) l (ws.map Value.string) := by rw [hQ]; exact hown
                                  have hcjQ : wQ.cell? ⟨wA.heap.size, j, none⟩ = some (.string (U j)) := by rw [hQ]; exact hcj
                                  have hBQ : Below wD.heap.size wD wQ := by rw [hQ]; exact below_drewN hBj _
                                  clear hQ
                                  go_wp2_with (at_builtin; refine wpList_append_fits _ rfl (.tmp 172) (.tmp 177) 25 rfl wD.heap.size 9 i0 1 Try.underlying25 hi hz1 wD.heap.size l (m - i) (ws.map Value.string) rfl (hownQ.alloc _) ⟨wQ.heap.size, 0, none⟩ 1 1 [.string (U j)] rfl rfl (cell_one_new _ _ _) (by simp [Value.oneCell']) (by omega) ?_; intro w3 hown3 hg3)
                                  go_roundw
                                  case rel => exact ⟨j + 1, l + 1, ws ++ [U j], by go_num, by omega, by omega, rfl, by simpa using hown3, HWI.out, (hBQ.alloc hBQ.size _).grown hg3 (by have := hBQ.size; simp; omega) (fun q hq => by cases hq; exact Nat.le_refl _), by show _ = _; rw [List.length_append, HLEN.out]; rfl⟩
                                  case measure => simp [intOf]; omega
                            · have hij' : i < j := by
                                rcases Nat.lt_or_ge i j with h | h
                                · exact h
                                · exfalso
                                  obtain rfl : i = j := by omega
                                  exact hin ⟨hlt, HGB.out.symm⟩
                              have hx : j < m → dig (tl (U j)) ≠ tl gB := fun h1 h2 => hin ⟨h1, h2⟩
                              have hEq := hWI.eq HSO.out hij' hjm hx hGI HGB.out HND.out HMEM.out HM.out HSM.out
                              have hw0 : ws ≠ [] := fun e => by have := hWI.emp e; omega
                              have hl0 : 0 < l := by have := List.length_pos_iff.2 hw0; have := HLEN.out; omega
                              have hGE := hG.below hBE
                              have hlk := hGE.lookOk gB HGS.out (by show (Fof ss (tl gB)).mergeSort leB ≠ []; rw [hEq]; simpa using hw0)
                              obtain ⟨q, cp, hVg, hHave⟩ := hGE.vrow (g := tl gB) hEq HLEN.out hl0
                              have hWant := VRow.of_owns hown HLEN.out
                              rw [hVg] at hlk
                              have HGI' : Hid (GI (fun p => tl (U p)) m j (Gs ++ [dig (tl (U i))])) := hGI.step HSO.out hij' hjm (fun p h1 h2 => (hWI.all p h1 h2).trans HGB.out) (fun h1 h2 => hx h1 (h2.trans HGB.out.symm))
                              obtain ⟨Wf, hWf⟩ : ∃ Wf, (fun p => ws.getD p ByteArray.empty) = Wf := ⟨_, rfl⟩
                              rw [hWf] at hHave hWant
                              have hgl' : (Gs ++ [dig (tl (U i))]).length = Gs.length + 1 := by simp
                              have HGL : Hid _ := hgl'
                              clear hgl' hWf hVg hGE hEq hw0 hin hGI hWI hown
                              have hll : ((l : Int) == (l : Int)) = true := by simp
                              by_cases hjlt : j < m
                              case pos =>
                                have hcj := hVE.cells j hjlt
                                have h48j := H48.out j hjlt
                                have hl16j : (16 : Int) ≤ ((U j).size : Int) := by omega
                                have hej : (((U j).extract 16 (U j).size).toList == gB.toList) = false := by
                                  rw [ByteArray.toList_eq, ByteArray.toList_eq, toList_drop]; simpa using hx hjlt
                                have hjmI : (j : Int) < (m : Int) := by omega
                                clear hx h48j
                                go_wp2_with fail
                                obtain ⟨wF, hF⟩ : ∃ wF, wF = wE := ⟨_, rfl⟩
                                go_loopw [20] (fun kk wr => ∃ k r : Nat, k ≤ l ∧ kk = .int .i64 k ∧ wr = wE.drewN r) (fun kk _ => l - (intOf kk).toNat)
                                case atStart => exact ⟨0, 0, Nat.zero_le _, rfl, rfl⟩
                                case round =>
                                  obtain ⟨k, r, hk, rfl, rfl⟩ := hrel
                                  by_cases hkl : k < l
                                  · have hkI : (k : Int) < (l : Int) := by omega
                                    have hk1 := hHave.cells k hkl
                                    have hk2 := hWant.cells k hkl
                                    have hee : (!(Wf k).toList == (Wf k).toList) = false := by simp
                                    go_wp2_with fail
                                    go_quiet (fail)
                                    go_wp2_with fail
                                    go_roundw
                                    case rel => exact ⟨k + 1, r + nq, by omega, by go_num, by first | rfl | (rw [World.drewN_drewN]) | (simp [World.drewN, Nat.add_assoc])⟩
                                    case measure => simp [intOf]; omega
                                  · obtain rfl : l = k := by omega
                                    clear hkl hk
                                    go_wp2_with fail
                                    go_roundw
                                    case rel => exact ⟨_, Gs ++ [dig (tl (U i))], rfl, by omega, by rw [HGL.out]; go_num, by rw [HGL.out]; omega, HGI'.out, below_drewN hBE _⟩
                                    case measure => simp [intOf]; omega
                              case neg =>
                                obtain rfl : m = j := by omega
                                clear hx hjlt
                                go_wp2_with fail
                                obtain ⟨wF, hF⟩ : ∃ wF, wF = wE := ⟨_, rfl⟩
                                go_loopw [20] (fun kk wr => ∃ k r : Nat, k ≤ l ∧ kk = .int .i64 k ∧ wr = wE.drewN r) (fun kk _ => l - (intOf kk).toNat)
                                case atStart => exact ⟨0, 0, Nat.zero_le _, rfl, rfl⟩
                                case round =>
                                  obtain ⟨k, r, hk, rfl, rfl⟩ := hrel
                                  by_cases hkl : k < l
                                  · have hkI : (k : Int) < (l : Int) := by omega
                                    have hk1 := hHave.cells k hkl
                                    have hk2 := hWant.cells k hkl
                                    have hee : (!(Wf k).toList == (Wf k).toList) = false := by simp
                                    go_wp2_with fail
                                    go_quiet (fail)
                                    go_wp2_with fail
                                    go_roundw
                                    case rel => exact ⟨k + 1, r + nq, by omega, by go_num, by first | rfl | (rw [World.drewN_drewN]) | (simp [World.drewN, Nat.add_assoc])⟩
                                    case measure => simp [intOf]; omega
                                  · obtain rfl : l = k := by omega
                                    clear hkl hk
                                    go_wp2_with fail
                                    go_roundw
                                    case rel => exact ⟨_, Gs ++ [dig (tl (U i))], rfl, by omega, by rw [HGL.out]; go_num, by rw [HGL.out]; omega, HGI'.out, below_drewN hBE _⟩
                                    case measure => simp [intOf]; omega
                        · obtain rfl : m = i := by omega
                          have hGr := hG.below hBr
                          have hsz := hGI.size hGr HMEM.out HM.out HSM.out
                          have HSIZE : Hid _ := hsz
                          clear hsz hlt him
                          go_wp2_with (at_len; refine wpList_len_own _ rfl _ 28 rfl 9 25 Try.underlying28 tokR bm mm D rfl hGr.own ?_)
                          go_ret
                          exact ⟨ret_bool (by rw [HSIZE.out]; simp), hBw.trans (hBr.mono hBw.size)⟩
    · have hn5 : decide ((4096 : Int) < (n : Int)) = true := by simp; omega
      go_wp2_with fail
      go_ret
      exact ⟨rfl, Below.refl _ _⟩

end Go.Proofs.Qxb6603859a
