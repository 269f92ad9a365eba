import Derived.Test.Qxb6603859aProg
import Derived.WalkKit
import Derived.WalkSpells
import Derived.WalkLawsBesides
import Derived.WalkSmall
import Derived.Deep.QuietTactic
import Derived.BigQuiet
import Derived.Deep.OwnRows
namespace Go.Proofs.Qxb6603859a
open Go.RowKit Go.Deep
set_option linter.unusedVariables false

/-- Does p stand at the head of s? -/
def hasPre (s p : ByteArray) : Bool := decide (p.size ≤ s.size) && ((s.extract 0 p.size).toList == p.toList)

theorem hasPre_yes {s p : ByteArray} (h : p.size ≤ s.size) : ((s.extract 0 p.size).toList == p.toList) = hasPre s p := by simp [hasPre, h]
theorem hasPre_no {s p : ByteArray} (h : ¬ p.size ≤ s.size) : hasPre s p = false := by simp [hasPre, h]

theorem pre14 (s p : ByteArray) (w : World) (hs : s.size ≤ 1048576) (hp : p.size ≤ 1048576) :
    Calls Try.prog 14 #[.string s, .string p] w fun e w' => e = .returned (.bool (hasPre s p)) ∧ w' = w := by
  by_cases h : p.size ≤ s.size
  · rw [← hasPre_yes h]
    go_enter Try.func14, Try.ntmps14
    go_wp2
    go_ret
    exact ⟨rfl, rfl⟩
  · rw [hasPre_no h]
    go_enter Try.func14, Try.ntmps14
    go_wp2
    go_ret
    exact ⟨rfl, rfl⟩

theorem pre12 (s p : ByteArray) (w : World) (hs : s.size ≤ 1048576) (hp : p.size ≤ 1048576) :
    Calls Try.prog 12 #[.string s, .string p] w fun e w' => e = .returned (.bool (hasPre s p)) ∧ w' = w := by
  go_enter Try.func12, Try.ntmps12
  go_wp2_with (go_at_call 14; refine (pre14 _ _ _ hs hp).mono ?_; rintro e w' ⟨rfl, rfl⟩)
  go_ret
  exact ⟨rfl, rfl⟩

/-- A reader's struct, as it lies in block b. -/
def Rd (w : World) (b : Nat) (d : ByteArray) (p l c : Int) : Prop := w.heap[b]? = some (.cells #[.string d, .int .i64 p, .int .i64 l, .int .i64 c] 33 (0, 0))

theorem Rd.c0 {w : World} {b : Nat} {d : ByteArray} {p l c : Int} (h : Rd w b d p l c) : w.cell? ⟨b, 0, none⟩ = some (.string d) := by unfold Rd at h; simp [World.cell?, h]
theorem Rd.c1 {w : World} {b : Nat} {d : ByteArray} {p l c : Int} (h : Rd w b d p l c) : w.cell? ⟨b, 1, none⟩ = some (.int .i64 p) := by unfold Rd at h; simp [World.cell?, h]
theorem Rd.c2 {w : World} {b : Nat} {d : ByteArray} {p l c : Int} (h : Rd w b d p l c) : w.cell? ⟨b, 2, none⟩ = some (.int .i64 l) := by unfold Rd at h; simp [World.cell?, h]
theorem Rd.c3 {w : World} {b : Nat} {d : ByteArray} {p l c : Int} (h : Rd w b d p l c) : w.cell? ⟨b, 3, none⟩ = some (.int .i64 c) := by unfold Rd at h; simp [World.cell?, h]
theorem Rd.fz {w : World} {b : Nat} {d : ByteArray} {p l c : Int} (h : Rd w b d p l c) (i : Nat) : w.frozen? ⟨b, i, none⟩ = false := by unfold Rd at h; simp [World.frozen?, h]
theorem Rd.set {w : World} {b : Nat} {d : ByteArray} {p l c : Int} (h : Rd w b d p l c) (p' l' : Int) : Rd ((w.setCell ⟨b, 1, none⟩ (.int .i64 p')).setCell ⟨b, 2, none⟩ (.int .i64 l')) b d p' l' c := by
  unfold Rd at *
  simp [World.setCell, Array.getElem?_modify, h]

/-- What a call of lineBreak leaves: the answer 'k ≠ 0', the place moved on by k, the line counted. -/
def LbPost (b : Nat) (w : World) (d : ByteArray) (p l c : Int) (k : Nat) (e : Ending) (w' : World) : Prop :=
  e = .returned (.bool (k != 0)) ∧ Rd w' b d (p + k) (if k = 0 then l else wrap64 (l + 1)) c ∧ Below b w w'

theorem LbPost.one (b : Nat) (w : World) (d : ByteArray) (p l c : Int) (k nq : Nat) (hk : 0 < k) (h : Rd w b d p l c) :
    LbPost b w d p l c k (.returned (.bool true)) (((w.setCell ⟨b, 1, none⟩ (.int .i64 (p + k))).setCell ⟨b, 2, none⟩ (.int .i64 (wrap64 (l + 1)))).drewN nq) := by
  refine ⟨by rw [bne_iff_ne.2 (by omega)], ?_, below_drewN (((Below.refl b w).setCell (p := ⟨b, 1, none⟩) (Nat.le_refl _) _).setCell (p := ⟨b, 2, none⟩) (Nat.le_refl _) _) _⟩
  rw [if_neg (by omega)]
  exact h.set (p + k) (wrap64 (l + 1))
theorem LbPost.zero (b : Nat) (w : World) (d : ByteArray) (p l c : Int) (nq : Nat) (h : Rd w b d p l c) :
    LbPost b w d p l c 0 (.returned (.bool false)) (w.drewN nq) := by
  refine ⟨rfl, ?_, below_drewN (Below.refl _ _) _⟩
  rw [if_pos rfl]
  simpa [Rd] using h

theorem lb10 (b : Nat) (d : ByteArray) (p : Nat) (l c : Int) (w : World) (hd : d.size ≤ 1048576) (hp : p ≤ d.size) (h : Rd w b d p l c) :
    Calls Try.prog 10 #[.pointer (some ⟨b, 0, none⟩)] w fun e w' =>
      LbPost b w d p l c (if hasPre (d.extract p d.size) ⟨#[10]⟩ then 1 else if hasPre (d.extract p d.size) ⟨#[13, 10]⟩ then 2 else 0) e w' := by
  have c0 := h.c0
  have c1 := h.c1
  have c2 := h.c2
  have f1 := h.fz 1
  have f2 := h.fz 2
  have H : Hid _ := h
  clear h
  have hx : (d.extract p d.size).size ≤ 1048576 := by rw [ByteArray.size_extract]; omega
  by_cases h1 : hasPre (d.extract p d.size) ⟨#[10]⟩ = true
  · rw [if_pos h1]
    go_enter Try.func10, Try.ntmps10
    go_wp2
    go_quiet (fail)
    go_wp2_with (go_at_call 12; refine (pre12 _ _ _ hx (by decide)).mono ?_; rintro e w' ⟨rfl, rfl⟩)
    go_ret
    exact LbPost.one b w d p l c 1 _ (by omega) H.out
  · have h1' : hasPre (d.extract p d.size) ⟨#[10]⟩ = false := by simpa using h1
    rw [if_neg h1]
    by_cases h2 : hasPre (d.extract p d.size) ⟨#[13, 10]⟩ = true
    · rw [if_pos h2]
      clear h1
      go_enter Try.func10, Try.ntmps10
      go_wp2
      go_quiet (fail)
      go_wp2_with (go_at_call 12; refine (pre12 _ _ _ hx (by decide)).mono ?_; rintro e w' ⟨rfl, rfl⟩)
      go_ret
      exact LbPost.one b w d p l c 2 _ (by omega) H.out
    · have h2' : hasPre (d.extract p d.size) ⟨#[13, 10]⟩ = false := by simpa using h2
      rw [if_neg h2]
      clear h1 h2
      go_enter Try.func10, Try.ntmps10
      go_wp2
      go_quiet (fail)
      go_wp2_with (go_at_call 12; refine (pre12 _ _ _ hx (by decide)).mono ?_; rintro e w' ⟨rfl, rfl⟩)
      go_ret
      exact LbPost.zero b w d p l c _ H.out

/-- How far lineBreak goes on from p. -/
def brk (d : ByteArray) (p : Nat) : Nat := if hasPre (d.extract p d.size) ⟨#[10]⟩ then 1 else if hasPre (d.extract p d.size) ⟨#[13, 10]⟩ then 2 else 0

def okb (d : ByteArray) (p : Nat) : Bool := brk d p != 0
def pnx (d : ByteArray) (p : Nat) : Int := (p : Int) + (brk d p : Nat)
def lnx (d : ByteArray) (p : Nat) (l : Int) : Int := if brk d p = 0 then l else wrap64 (l + 1)

theorem lb10' (b : Nat) (d : ByteArray) (p : Nat) (l c : Int) (w : World) (hd : d.size ≤ 1048576) (hp : p ≤ d.size) (h : Rd w b d p l c) :
    Calls Try.prog 10 #[.pointer (some ⟨b, 0, none⟩)] w fun e w' => e = .returned (.bool (okb d p)) ∧ Rd w' b d (pnx d p) (lnx d p l) c ∧ Below b w w' :=
  lb10 b d p l c w hd hp h

theorem lb6 (d : ByteArray) (p : Nat) (l : Int) (w : World) (hd : d.size ≤ 1048576) (hp : p ≤ d.size) :
    Calls Try.prog 6 #[.string d, .int .i64 p, .int .i64 l, .int .i64 0] w fun e w' =>
      e = .returned (.tuple #[.bool (okb d p), .string d, .int .i64 (pnx d p), .int .i64 (lnx d p l), .int .i64 0]) ∧ Below w.heap.size w w' := by
  go_enter Try.func6, Try.ntmps6
  go_wp2_with fail
  have h := lb10' w.heap.size d p l 0 (w.alloc (.cells #[.string d, .int .i64 p, .int .i64 l, .int .i64 0] 33)) hd hp (by unfold Rd; exact blk_alloc_new _ _)
  refine h.mono ?_
  rintro e w' ⟨rfl, hr, hb⟩
  clear h
  have c0 := hr.c0
  have c1 := hr.c1
  have c2 := hr.c2
  have c3 := hr.c3
  clear hr
  go_wp2
  go_quiet (fail)
  go_wp2
  exact bodyPost_ret (v := .tuple #[.bool (okb d p), .string d, .int .i64 (pnx d p), .int .i64 (lnx d p l), .int .i64 0]) (by simp [results, Try.results6, go_sem]) rfl ⟨rfl, below_drewN (((Below.refl _ _).alloc (Nat.le_refl _) _).trans hb) _⟩

theorem bytes5 (d : ByteArray) (p l : Int) (w : World) (hd : d.size ≤ maxLen) :
    Calls Try.prog 5 #[.string d, .int .i64 p, .int .i64 l] w fun e w' => e = .returned (.bool (decide (d.size ≤ 1048576))) ∧ w' = w := by
  unfold maxLen at hd
  by_cases h : d.size ≤ 1048576
  · rw [decide_eq_true h]
    go_enter Try.func5, Try.ntmps5
    go_wp2
    go_ret
    exact ⟨rfl, rfl⟩
  · rw [decide_eq_false h]
    go_enter Try.func5, Try.ntmps5
    go_wp2
    go_ret
    exact ⟨rfl, rfl⟩
end Go.Proofs.Qxb6603859a
