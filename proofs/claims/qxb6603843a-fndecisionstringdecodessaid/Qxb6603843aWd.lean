import Derived.Test.Qxb6603843aWc
import Derived.Test.Qxb6603843aShelf
import Derived.Deep.RegionWith
namespace Go.Proofs.Qxb6603843a
open Go.RowKit Go.Deep
set_option linter.unusedVariables false

theorem join13 (g n : Nat) (S : Nat → ByteArray) (w : World) (hn : n ≤ 1048576) (h0 : 0 < n) (hs : sumLen S n ≤ 1048576) (hrow : w.rowIs g 9 n (fun j => .string (S j))) :
    Calls Try.prog 13 #[.slice (some ⟨g, 0, none⟩) n n, .string ⟨#[44]⟩] w fun e w' => e = .returned (.string (joined S n)) ∧ Below w.heap.size w w' := by
  have hl : ((List.range n).map S).length = n := by simp
  have := Try.strings_Join g 0 n ((List.range n).map S) ⟨#[44]⟩ w (fun j x hx => by
    rw [List.getElem?_map] at hx
    obtain ⟨i, hi, rfl⟩ := Option.map_eq_some_iff.1 hx
    have hj : j < n := by simpa using (List.getElem?_eq_some_iff.1 hi).1
    rw [List.getElem?_range hj] at hi
    cases hi
    rw [Nat.zero_add]
    exact hrow.cell hj) hrow.lt (by rw [hl]; omega) (by rw [hl]; exact Nat.le_refl _) (by
      have := joinedL_length S n h0
      unfold joinedL bytesOf at this
      show (Lib.join (((List.range n).map S).map (·.data.toList)) [44]).length ≤ _
      rw [this]; omega)
  rw [hl] at this
  exact this

theorem str9_zero (id : ByteArray) (a : Option Addr) (c : Nat) (S : Nat → ByteArray) (w : World) (hid : id.size ≤ 1048576) :
    Calls Try.prog 9 #[.agg #[.string id, .slice a 0 c]] w fun e w' => e = .returned (.string (decStr id S 0)) ∧ Below w.heap.size w w' := by
  go_enter Try.func9, Try.ntmps9
  go_wp2
  go_ret
  exact ⟨rfl, (Below.refl _ _).alloc (Nat.le_refl _) _⟩

set_option maxHeartbeats 400000 in
theorem str9_some (id : ByteArray) (b n c : Nat) (S : Nat → ByteArray) (w : World) (hid : id.size ≤ 1048576) (hn : n ≤ 1048576) (h0 : 0 < n) (hs : sumLen S n ≤ 1048576) (hb : b < w.heap.size)
    (hc : ∀ j, j < n → w.cell? ⟨b, j, none⟩ = some (.string (S j))) :
    Calls Try.prog 9 #[.agg #[.string id, .slice (some ⟨b, 0, none⟩) n c]] w fun e w' => e = .returned (.string (instrB ++ id ++ rejB ++ joined S n)) ∧ Below w.heap.size w w' := by
  have hmk := fun wx => run_make_row' (P := Try.prog) 22 9 (.string ByteArray.empty) 16 Try.underlying22 Try.info9 rfl .i64 .i64 n (by omega) (by omega) wx
  go_enter Try.func9, Try.ntmps9
  go_wp2
  go_loopw [21] (fun i wr => ∃ k : Nat, k ≤ n ∧ i = .int .i64 k ∧ Below w.heap.size w wr ∧ wr.heap[w.heap.size]? = some (.cells #[.string id, .slice (some ⟨b, 0, none⟩) n c] 27 (0, 0)) ∧ wr.rowIs (w.heap.size + 1) 9 n (fillTo S k)) (fun i _ => n - (intOf i).toNat)
  case atStart => exact ⟨0, Nat.zero_le _, rfl, ((Below.refl _ _).alloc (Nat.le_refl _) _).alloc (by simp) _, by rw [blk_alloc_lt _ _ _ (by simp)]; exact blk_alloc_new _ _, by have := (World.rowIs_made (w.alloc (.cells #[.string id, .slice (some ⟨b, 0, none⟩) n c] 27)) (.string ByteArray.empty) n 9).congr (fun j _ => fillTo_zero S j); simpa using this⟩
  case round =>
    obtain ⟨k, hk, rfl, hbel, hst, hrow⟩ := hrel
    by_cases hlt : k < n
    · have hck : wr.cell? ⟨b, k, none⟩ = some (.string (S k)) := (hbel.cell (p := ⟨b, k, none⟩) hb).trans (hc k hlt)
      have hf := hrow.frozen k
      have hcc := hrow.cell hlt
      have HST : Hid _ := hst
      clear hst
      go_wp2
      go_roundw
      case rel => exact ⟨k + 1, by omega, by go_num, hbel.setCell (by simp) _, (blk_setCell_other _ _ _ _ (by simp)).trans HST.out, (hrow.set k _).congr (fun j _ => fillTo_succ S k j)⟩
      case measure => simp [intOf]; omega
    · have c0 : wr.cell? ⟨w.heap.size, 0, none⟩ = some (.string id) := by simp [World.cell?, hst]
      have HST : Hid _ := hst
      clear hst
      go_wp2
      obtain rfl : k = n := by omega
      have hrow' := hrow.congr (fun j hj => fillTo_full S k j hj)
      have hjs := joined_size S k h0
      have hjs2 : (joined S k).size ≤ 3000000 := by omega
      clear hjs
      have hz : w.heap.size < wr.heap.size := by have := hrow.lt; omega
      go_region_with (go_at_call 13; refine (join13 _ _ S _ hn h0 hs ?_).mono ?_; exact hrow'; rintro e w1 ⟨rfl, hb1⟩; have c0' := (hb1.cell (p := ⟨w.heap.size, 0, none⟩) hz).trans c0)
      all_goals go_wp2
      all_goals go_ret
      all_goals exact ⟨rfl, hbel.drew.trans (Below.mono (by assumption) (by show w.heap.size ≤ wr.heap.size; omega))⟩
theorem str9 (id : ByteArray) (B : Nat) (a : Option Addr) (n c : Nat) (S : Nat → ByteArray) (w : World) (hid : id.size ≤ 1048576) (hn : n ≤ 1048576) (hs : sumLen S n ≤ 1048576) (ho : Own B w a 33 n S) :
    Calls Try.prog 9 #[.agg #[.string id, .slice a n c]] w fun e w' => e = .returned (.string (decStr id S n)) ∧ Below w.heap.size w w' := by
  rcases ho with rfl | ⟨g, _, rfl, hr⟩
  · exact str9_zero id a c S w hid
  · by_cases h0 : n = 0
    · subst h0; exact str9_zero id _ c S w hid
    · unfold decStr
      rw [if_neg h0]
      exact str9_some id g n c S w hid hn (by omega) hs hr.lt (fun j hj => hr.cell hj)

end Go.Proofs.Qxb6603843a
