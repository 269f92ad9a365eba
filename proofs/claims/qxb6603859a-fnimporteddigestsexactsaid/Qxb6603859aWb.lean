import Derived.Test.Qxb6603859aGr
import Derived.Test.Qxb6603859aShelf
import Derived.Deep.RegionLaw
import Derived.Deep.DrawnRows
namespace Go.Proofs.Qxb6603859a
open Go.RowKit Go.Deep Go.Maps
set_option linter.unusedVariables false

/-- The strings of 48 bytes among ss whose digest is g. -/
def Fof (ss : List (List UInt8)) (g : List UInt8) : List (List UInt8) := ss.filter fun x => x.length == 48 && x.drop 16 == g

theorem Fof_snoc_other (ss : List (List UInt8)) (x g : List UInt8) (h : x.length ≠ 48) : Fof ss g = Fof (ss ++ [x]) g := by
  simp [Fof, List.filter_append, h]
theorem Fof_snoc (ss : List (List UInt8)) (x g : List UInt8) (h : x.length = 48) : (if g = x.drop 16 then Fof ss (x.drop 16) ++ [x] else Fof ss g) = Fof (ss ++ [x]) g := by
  unfold Fof
  rw [List.filter_append]
  by_cases e : g = x.drop 16
  · subst e; rw [if_pos rfl]; simp [h]
  · rw [if_neg e]
    have : (x.drop 16 == g) = false := by simpa using fun e' => e e'.symm
    simp [this]
theorem Fof_length (ss : List (List UInt8)) (g : List UInt8) : (Fof ss g).length ≤ ss.length := List.length_filter_le _ _

theorem info9 : (Try.prog.info? 9).map (fun i => (i.zero, i.size, i.bytes)) = some (some (.string ByteArray.empty), 1, 16) := by kernel_rfl
theorem zero25 (w : World) : (zeroValue 25).run Try.prog w = .ok nilS w := by kernel_rfl

/-- The groups while they are being sorted. -/
def Gof (ss : List (List UInt8)) (left : Lit → Bool) (g : List UInt8) : List (List UInt8) := if left (.string g) then Fof ss g else (Fof ss g).mergeSort leB

theorem Gof_length (ss : List (List UInt8)) (left : Lit → Bool) (g : List UInt8) : (Gof ss left g).length = (Fof ss g).length := by
  unfold Gof; split
  · rfl
  · exact List.length_mergeSort _

theorem Gof_step (ss : List (List UInt8)) (left : Lit → Bool) (g g' : List UInt8) (h : left (.string g) = true) : (if g' = g then (Gof ss left g).mergeSort leB else Gof ss left g') = Gof ss (fun z => left z && !z.sameKey (.string g)) g' := by
  unfold Gof
  by_cases e : g' = g
  · subst e; rw [if_pos rfl, if_pos h]; simp [Lit.sameKey]
  · rw [if_neg e]
    simp [Lit.sameKey, e]

theorem toList_drop (s : ByteArray) : (s.extract 16 s.size).data.toList = s.data.toList.drop 16 := by
  simp [List.take_of_length_le]

theorem Grp.look {wr : World} {lo bm m : Nat} {D : DataW Value} {F : List UInt8 → List (List UInt8)} {V : List UInt8 → Value} (h : Grp wr lo bm m D F V) (s : ByteArray) (hs : s.size ≤ maxLen) :
    (Instr.lookup 28 (.map (some bm)) (.string s) false).run Try.prog wr = .ok (V s.data.toList) wr := by
  obtain ⟨v, ps, hrun, hv⟩ := h.own.lookup law9 Try.underlying28 (zero25 wr) (zd := .held nilS) (zp := []) rfl (WideMaps.keyOf_string_mk Try.underlying9 hs)
  rw [h.atk] at hv
  simp only [tokR, Option.some.injEq, Prod.mk.injEq, DataW.held.injEq] at hv
  rw [hrun, hv.1]

theorem Grp.drew {wr : World} {lo bm m : Nat} {D : DataW Value} {F : List UInt8 → List (List UInt8)} {V : List UInt8 → Value} (h : Grp wr lo bm m D F V) : Grp wr.drew lo bm m D F V :=
  ⟨h.own.drew, h.atk, h.hask, fun g => (h.row g).drew, h.nil, h.apart, h.low⟩

set_option maxHeartbeats 2000000 in
theorem imp11 (b n0 : Nat) (D0 : DataW Value) (w : World) (hb : b < w.heap.size) (h0 : w.ownsMap Try.prog 9 tokR b n0 D0) (hs : Maps.size D0 ≤ 4096) :
    Calls Try.prog 11 #[.agg #[.map (some b)]] w fun e w' => e = .returned (.map (some (w.heap.size + 1))) ∧ Below w.heap.size w w' ∧ ∃ ss m D V, (ss.Nodup ∧ ∀ x, x ∈ ss ↔ Maps.has D0 (.string x) = true) ∧ Grp w' (w.heap.size + 3) (w.heap.size + 1) m D (fun g => (Fof ss g).mergeSort leB) V := by
  have hmm := @run_makeMap Try.prog
  obtain ⟨i0, hi, hz0, hz1, hz2⟩ := info_parts info9
  go_enter Try.func11, Try.ntmps11
  go_wp2_with (at_range; refine wpList_range_own _ rfl _ 35 rfl 9 39 law9 Try.underlying35 _ b n0 D0 rfl ((h0.alloc _).alloc _) ?_; intro w0 hrg0 hg0 hs0)
  go_frame
  have e1 : ((w.alloc (Obj.cells #[Value.map (some b)] 41)).alloc (Obj.map #[] 0)).heap.size = w.heap.size + 2 := by rw [nblk_alloc, nblk_alloc]
  have hG0 : Grp w0 (w.heap.size + 3) (w.heap.size + 1) 0 (.map []) (fun _ => []) (fun _ => nilS) := by
    have := Grp.start (w.alloc (Obj.cells #[Value.map (some b)] 41)) (w.heap.size + 3) (by simp)
    rw [show (w.alloc (Obj.cells #[Value.map (some b)] 41)).heap.size = w.heap.size + 1 by simp] at this
    exact this.kept hg0 (fun q e => by cases e)
  have hB0 : Below w.heap.size w w0 := (((Below.refl _ _).alloc (Nat.le_refl _) _).alloc (by simp) _).grown hg0 (by simp; omega) (fun q e => by cases e)
  rw [e1] at hrg0 hs0 ⊢
  clear hmm hg0 e1
  go_loopw [4] (fun _ wr => ∃ left cnt ss D V, wr.ranges Try.prog 9 tokR b (w.heap.size + 2) n0 D0 left cnt ∧ Collected D0 left ss ∧ Grp wr (w.heap.size + 3) (w.heap.size + 1) ss.length D (Fof ss) V ∧ Below w.heap.size w wr ∧ ss.length + cnt ≤ 4096 ∧ w.heap.size + 3 ≤ wr.heap.size) (fun _ wr => wr.rangeLeft b (w.heap.size + 2))
  case atStart => exact ⟨_, _, [], _, _, hrg0, Collected.start D0, hG0, hB0, by simpa using hs, by omega⟩
  case round =>
    obtain ⟨left, cnt, ss, D, V, hrg, hC, hG, hB, hcnt, hsz⟩ := hrel
    clear hrg0 hG0 hB0 hs0
    go_wp2_with (at_next; refine wpList_next_ranges _ rfl _ rfl 9 law9 tokR Value.string (fun v : Value => v) (fun key kl hk => by obtain ⟨x, hx, _⟩ := Maps.keyOf_str Try.underlying9 hk; exact ⟨_, hx⟩) (fun v y _ => ⟨v, rfl⟩) b (w.heap.size + 2) n0 D0 left cnt rfl hrg ?_ ?_)
    · intro hc0 hl0
      have HP : Hid (ss.Nodup ∧ ∀ x, x ∈ ss ↔ Maps.has D0 (.string x) = true) := ⟨hC.1, fun x => by rw [hC.2 x, hl0]; simp⟩
      clear hC hl0 hc0 hrg
      obtain ⟨wA, rfl⟩ : ∃ wA, wA = wr := ⟨_, rfl⟩
      go_wp2_with (at_range; refine wpList_range_own _ rfl _ 28 rfl 9 25 law9 Try.underlying28 tokR (w.heap.size + 1) ss.length D rfl hG.own ?_; intro w5 hrg5 hg5 hs5)
      go_frame
      have hG5 : Grp w5 (w.heap.size + 3) (w.heap.size + 1) ss.length D (Gof ss (Maps.has D)) V := (hG.kept hg5 (fun q e => by cases e)).congr (fun g => by
        unfold Gof
        rw [hG.hask g]
        by_cases e : Fof ss g = []
        · rw [e]; simp
        · simp [e])
      have hB5 : Below w.heap.size w w5 := hB.grown hg5 hB.size (fun q e => by cases e)
      go_loopw [6] (fun _ wr => ∃ left2 cnt2, wr.ranges Try.prog 9 tokR (w.heap.size + 1) wA.heap.size ss.length D left2 cnt2 ∧ Grp wr (w.heap.size + 3) (w.heap.size + 1) ss.length D (Gof ss left2) V ∧ Below w.heap.size w wr ∧ wA.heap.size ≤ wr.heap.size) (fun _ wr => wr.rangeLeft (w.heap.size + 1) wA.heap.size)
      case atStart => exact ⟨_, _, hrg5, hG5, hB5, hg5.size⟩
      case round =>
        clear hrg5 hG5 hB5 hg5 hs5 hG hB
        obtain ⟨left2, cnt2, hrg, hG, hB, hsA⟩ := hrel
        go_wp2_with (at_next; refine wpList_next_ranges _ rfl _ rfl 9 law9 tokR Value.string (fun v : Value => v) (fun key kl hk => by obtain ⟨x, hx, _⟩ := Maps.keyOf_str Try.underlying9 hk; exact ⟨_, hx⟩) (fun v y _ => ⟨v, rfl⟩) (w.heap.size + 1) wA.heap.size ss.length D left2 cnt2 rfl hrg ?_ ?_)
        · intro hc0 hl0
          have hG' := hG.congr (F' := fun g => (Fof ss g).mergeSort leB) (fun g => by unfold Gof; rw [hl0]; rfl)
          clear hl0
          go_wp2_with fail
          go_ret
          exact ⟨rfl, hB, ss, _, D, V, HP.out, hG'⟩
        · intro s c kl yd yp w2 cnt3 hkey hlk hv hat hrg2 hlt hg2 hs2 hen
          obtain ⟨x, ex, rfl, hxl⟩ := Maps.keyOf_str Try.underlying9 hkey
          obtain rfl : s.data.toList = x := by simp only [encStr, Value.string.injEq] at ex; rw [ex]
          clear ex hkey
          have hG2 := hG.iter hrg hrg.ne hg2
          have hB2 : Below w.heap.size w w2 := hB.grown hg2 hB.size (fun q e => by cases e; omega)
          obtain rfl : yd = .held c := by simp only [tokR, Option.some.injEq, Prod.mk.injEq] at hv; exact hv.1.symm
          have hVc : V s.data.toList = c := by have := hG.atk s.data.toList; rw [hat] at this; simpa using this.symm
          have hhas : Maps.has D (.string s.data.toList) = true := has_true_of_atKey hat
          rw [hG.hask] at hhas
          have hF : Gof ss left2 s.data.toList ≠ [] := by simpa using hhas
          have hrow := hG2.row s.data.toList
          rw [hVc] at hrow
          obtain ⟨q, cap, cur, hvq, hbase, hbq, h1, h2, h3, h4⟩ : ∃ q cap cur, c = .slice (some ⟨q, 0, none⟩) (Gof ss left2 s.data.toList).length cap ∧ w.heap.size + 3 ≤ q ∧ w2.heap[q]? = some (.cells cur 9 (0, 0)) ∧ (Gof ss left2 s.data.toList).length ≤ cap ∧ cap ≤ maxLen ∧ cur.size = cap * 1 ∧ cur.toList.take ((Gof ss left2 s.data.toList).length * 1) = (Gof ss left2 s.data.toList).map encStr := by
            rcases hrow.2 with ⟨_, h0⟩ | h
            · exact absurd (List.length_eq_zero_iff.1 h0) hF
            · exact h
          subst hvq
          have hlen : (Gof ss left2 s.data.toList).length ≤ 4096 := by have := Gof_length ss left2 s.data.toList; have := Fof_length ss s.data.toList; omega
          have hH : Sort.Holds encStr w2 q 0 (Gof ss left2 s.data.toList).toArray := holds_of_block hbq (by simpa using h4)
          have hql : q < w2.heap.size := (Array.getElem?_eq_some_iff.1 hbq).1
          have hcall := Try.slices_Sort_string q 0 cap (Gof ss left2 s.data.toList) w2 hH hql (by omega)
          have hqr : some wA.heap.size ≠ some q := row_ne_iter (v := .slice (some ⟨q, 0, none⟩) (Gof ss left2 s.data.toList).length cap) hrow hrg2
          clear hs2
          go_wp2_with fail
          refine hcall.mono ?_
          rintro e w6 ⟨rfl, nn, os, hw6⟩
          have hg6 : w2.grownBy w6 (some q) := by rw [hw6]; exact grownBy_sorted _
          have hrow6 : w6.ownsRow (w.heap.size + 3) 9 1 (.slice (some ⟨q, 0, none⟩) (Gof ss left2 s.data.toList).length cap) (Gof ss left2 s.data.toList).length (((Gof ss left2 s.data.toList).mergeSort leB).map encStr) := by
            rw [hw6]; exact ownsRow_sorted (List.length_mergeSort _) hbase hbq h1 h2 h3
          have hG6 := (hG2.sort s.data.toList (q := q) (by rw [hVc]; rfl) (ts := (Gof ss left2 s.data.toList).mergeSort leB) (List.length_mergeSort _) hg6 (by rw [hVc]; exact hrow6)).congr (F' := Gof ss (fun z => left2 z && !z.sameKey (.string s.data.toList))) (fun g' => Gof_step ss left2 s.data.toList g' hlk)
          have hrg6 := hrg2.kept hg6 (by simp; omega) hqr
          have hB6 : Below w.heap.size w w6 := hB2.grown hg6 hB2.size (fun j hj => by cases hj; omega)
          have hsz6 : wA.heap.size ≤ w6.heap.size := Nat.le_trans hsA (Nat.le_trans hg2.size hg6.size)
          clear hcall hw6 hH hG2 hB2 hrow hrow6 hbq h4 hG hB hg6 hVc hat
          go_wp2_with fail
          go_roundw
          case rel => exact ⟨_, _, hrg6, hG6, hB6, hsz6⟩
          case measure => rw [hrg6.left_eq, hrg.left_eq]; exact hlt
    · intro s c kl yd yp w2 cnt2 hkey hlk hv hat hrg2 hlt hg2 hs2 hen
      obtain ⟨x, ex, rfl, hxl⟩ := Maps.keyOf_str Try.underlying9 hkey
      obtain rfl : s.data.toList = x := by simp only [encStr, Value.string.injEq] at ex; rw [ex]
      clear ex hkey
      have hG2 := hG.kept hg2 (fun q e => by cases e; omega)
      have hB2 : Below w.heap.size w w2 := hB.grown hg2 hB.size (fun q e => by cases e; omega)
      have hC2 := hC.step hlk hat
      have hsz2 : w.heap.size + 3 ≤ w2.heap.size := by omega
      clear hs2 hG hB hC
      by_cases hl : s.size = 48
      · obtain ⟨dg, hdg⟩ : ∃ dg, s.extract 16 s.size = dg := ⟨_, rfl⟩
        have hdl : dg.data.toList = s.data.toList.drop 16 := by rw [← hdg]; exact toList_drop s
        have hds : dg.size ≤ maxLen := by rw [← hdg, ByteArray.size_extract]; unfold maxLen; omega
        have hk1 := hG2.drew.look dg hds
        have hk2 : ∀ o, (Instr.lookup 28 (.map (some (w.heap.size + 1))) (.string dg) false).run Try.prog (w2.alloc o).drew = .ok (V dg.data.toList) (w2.alloc o).drew := fun o => (hG2.alloc o).drew.look dg hds
        have hrow := hG2.row dg.data.toList
        have hFl := Fof_length ss dg.data.toList
        have hl' : ((s.size : Int) == 48) = true := by simp; omega
        have hl2 : (16 : Int) ≤ (s.size : Int) := by omega
        have HL : Hid _ := hl
        have HDL : Hid _ := hdl
        obtain ⟨vg, hvg⟩ : ∃ vg, vg = V dg.data.toList := ⟨_, rfl⟩
        rw [← hvg] at hk1 hrow
        simp only [← hvg] at hk2
        have HVG : Hid _ := hvg
        have HUP : Hid (∀ o w3 v', (w2.alloc o).drew.grownBy w3 vg.ownBlock → ∃ w4, (Instr.mapUpdate 28 (.map (some (w.heap.size + 1))) (.string dg) v').run Try.prog w3 = .ok () w4 ∧ w4.ownsMap Try.prog 9 tokR (w.heap.size + 1) (ss.length + 1) (D.put (.string dg.data.toList) (.held v')) ∧ w3.grownBy w4 (some (w.heap.size + 1))) := fun o w3 v' hg =>
          ((hG2.own.alloc o).drew.kept hg (row_ne_low hrow (by omega))).update law9 Try.underlying28 (by unfold maxLen; omega) (WideMaps.keyOf_string_mk Try.underlying9 hds) (ps := []) rfl
        clear hl hdl hvg
        go_wp2_with fail
        go_region_law ((refine step_append_lies _ (by rfl) (.tmp 24) (.tmp 26) 25 (by rfl) (w.heap.size + 3) 9 i0 (.string ByteArray.empty) 1 16 Try.underlying25 hi hz0 hz1 hz2 rfl (by decide) vg (Fof ss dg.data.toList).length ((Fof ss dg.data.toList).map encStr) (by rfl) (hrow.alloc _) ⟨w2.heap.size, 0, none⟩ 1 1 [.string s] (by rfl) rfl (cell_one_new w2 _ _) (by simp [Value.oneCell']) (by omega) (by unfold maxLen; omega) (by omega) (by simp; omega) (w2.heap.size + 1) (by simp) ?_; intro q cap w3 hown3 hg3 hq3 hlt3; obtain ⟨w4, hrun4, hmap4, hg4⟩ := HUP.out _ w3 (.slice (some ⟨q, 0, none⟩) ((Fof ss dg.data.toList).length + 1) cap) hg3))
        all_goals
          go_wp2_with fail
          go_roundw
          case rel =>
            have hx : vg = V dg.data.toList := HVG.out
            have hb3 : some b ≠ vg.ownBlock := row_ne_low hrow (by omega)
            have hr3 : some (w.heap.size + 2) ≠ vg.ownBlock := row_ne_low hrow (by omega)
            have hrg4 := ((ranges_drew (hrg2.alloc (.cells #[.string s] 9))).kept (w' := w3) hg3 hb3 hr3).kept hg4 (by simp; omega) (by simp)
            have hG4 := (hG2.alloc (.cells #[.string s] 9)).drew.add dg.data.toList s.data.toList (w1 := w3) (w2 := w4) (q := q) (cap := cap) hown3 (by rw [← hx]; exact hg3) (by rw [← hx]; exact hq3.elim .inl (fun h => .inr (by simp; omega))) hmap4 hg4
            obtain ⟨D4, V4, hG5⟩ : ∃ D4 V4, Grp w4 (w.heap.size + 3) (w.heap.size + 1) (ss.length + 1) D4 (Fof (ss ++ [s.data.toList])) V4 := ⟨_, _, hG4.congr (F' := Fof (ss ++ [s.data.toList])) (fun g => by rw [HDL.out]; exact Fof_snoc ss s.data.toList g (by simpa using HL.out))⟩
            refine ⟨_, cnt2, ss ++ [s.data.toList], D4, V4, hrg4, hC2, hG5.mono (by simp), ?_, by simp; omega, ?_⟩
            · exact (((hB2.alloc (by omega) _).drew).grown hg3 (by simp; omega) (fun j hj => by have := (hrow.lt j hj).1; omega)).grown hg4 (by have := hg3.size; simp at this; omega) (fun j hj => by cases hj; omega)
            · have h1 := hg3.size
              have h2 := hg4.size
              simp at h1
              omega
          case measure =>
            have hb3 : some b ≠ vg.ownBlock := row_ne_low hrow (by omega)
            have hr3 : some (w.heap.size + 2) ≠ vg.ownBlock := row_ne_low hrow (by omega)
            have hrg4 := ((ranges_drew (hrg2.alloc (.cells #[.string s] 9))).kept (w' := w3) hg3 hb3 hr3).kept hg4 (by simp; omega) (by simp)
            rw [hrg4.left_eq, hrg.left_eq]; exact hlt
      · have hl' : ((s.size : Int) == 48) = false := by simp; omega
        go_wp2_with fail
        go_roundw
        case rel => exact ⟨_, _, _, D, V, hrg2, hC2, (hG2.congr (fun g => Fof_snoc_other ss s.data.toList g (by simpa using hl))).mono (by simp), hB2, by simp; omega, hsz2⟩
        case measure => rw [hrg2.left_eq, hrg.left_eq]; exact hlt
end Go.Proofs.Qxb6603859a
