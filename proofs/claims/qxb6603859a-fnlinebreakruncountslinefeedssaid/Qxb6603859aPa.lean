import Derived.Test.Qxb6603859aWa
namespace Go.Proofs.Qxb6603859a
open Go.RowKit

/-- Byte i of d; 256 where there is none. -/
def byteAt (d : ByteArray) (i : Nat) : Nat := if h : i < d.size then (d[i]'h).toNat else 256

theorem byteAt_lt {d : ByteArray} {i : Nat} (h : i < d.size) : byteAt d i = (d[i]'h).toNat := by simp [byteAt, h]

theorem list_at (d : ByteArray) (i : Nat) (h : i < d.size) : d.data.toList[i]? = some (d[i]'h) := by
  rw [List.getElem?_eq_getElem (by simpa using h)]; rfl

theorem pre_one (d : ByteArray) (p : Nat) (hp : p ≤ d.size) : hasPre (d.extract p d.size) ⟨#[10]⟩ = true ↔ byteAt d p = 10 := by
  unfold hasPre
  rw [ByteArray.toList_eq, ByteArray.toList_eq]
  simp only [ByteArray.data_extract, Array.toList_extract, ByteArray.size_extract, Nat.min_self]
  show (decide (1 ≤ d.size - p) && _) = true ↔ _
  by_cases h : p < d.size
  · have e : (d.data.extract p d.size).toList.extract 0 1 = [d[p]'h] := by
      simp only [Array.toList_extract, List.extract_eq_take_drop, List.drop_zero, Nat.sub_zero]
      rw [List.take_take, Nat.min_eq_left (by omega), List.drop_eq_getElem_cons (by simpa using h)]
      rfl
    rw [show ByteArray.size ⟨#[10]⟩ = 1 from rfl, e, byteAt_lt h]
    simp [show 1 ≤ d.size - p by omega, ← UInt8.toNat_inj]
  · simp [byteAt, h, show ¬ 1 ≤ d.size - p by omega]

theorem pre_two (d : ByteArray) (p : Nat) (hp : p ≤ d.size) : hasPre (d.extract p d.size) ⟨#[13, 10]⟩ = true ↔ byteAt d p = 13 ∧ byteAt d (p + 1) = 10 := by
  unfold hasPre
  rw [ByteArray.toList_eq, ByteArray.toList_eq]
  simp only [ByteArray.data_extract, Array.toList_extract, ByteArray.size_extract, Nat.min_self]
  show (decide (2 ≤ d.size - p) && _) = true ↔ _
  by_cases h : p + 1 < d.size
  · have e : (d.data.extract p d.size).toList.extract 0 2 = [d[p]'(by omega), d[p + 1]'h] := by
      simp only [Array.toList_extract, List.extract_eq_take_drop, List.drop_zero, Nat.sub_zero]
      rw [List.take_take, Nat.min_eq_left (by omega), List.drop_eq_getElem_cons (by simp; omega), List.drop_eq_getElem_cons (by simpa using h)]
      rfl
    rw [show ByteArray.size ⟨#[13, 10]⟩ = 2 from rfl, e, byteAt_lt h, byteAt_lt (show p < d.size by omega)]
    simp [show 2 ≤ d.size - p by omega, ← UInt8.toNat_inj]
  · have : byteAt d (p + 1) = 256 := by simp [byteAt, h]
    simp [this, show ¬ 2 ≤ d.size - p by omega]

theorem brk_cases (d : ByteArray) (p : Nat) (hp : p ≤ d.size) :
    (brk d p = 0 ∧ byteAt d p ≠ 10 ∧ ¬ (byteAt d p = 13 ∧ byteAt d (p + 1) = 10)) ∨ (brk d p = 1 ∧ byteAt d p = 10) ∨ (brk d p = 2 ∧ byteAt d p = 13 ∧ byteAt d (p + 1) = 10) := by
  have h1 := pre_one d p hp
  have h2 := pre_two d p hp
  unfold brk
  by_cases a : hasPre (d.extract p d.size) ⟨#[10]⟩ = true
  · rw [if_pos a]; exact .inr (.inl ⟨rfl, h1.1 a⟩)
  · rw [if_neg a]
    by_cases b : hasPre (d.extract p d.size) ⟨#[13, 10]⟩ = true
    · rw [if_pos b]; exact .inr (.inr ⟨rfl, h2.1 b⟩)
    · rw [if_neg b]; exact .inl ⟨rfl, fun h => a (h1.2 h), fun h => b (h2.2 h)⟩

theorem byteAt_in {d : ByteArray} {i c : Nat} (h : byteAt d i = c) (hc : c < 256) : i < d.size := by
  unfold byteAt at h
  split at h
  · assumption
  · omega

/-- The LFs among k bytes from pos on. -/
def cnt (d : ByteArray) (pos : Nat) : Nat → Nat
  | 0 => 0
  | k + 1 => cnt d pos k + (if byteAt d (pos + k) = 10 then 1 else 0)

theorem cnt_le (d : ByteArray) (pos k : Nat) : cnt d pos k ≤ k := by
  induction k with
  | zero => exact Nat.le_refl _
  | succ k ih => simp only [cnt]; split <;> omega

/-- From pos to p there are line breaks alone. -/
def Run (d : ByteArray) (pos p : Nat) : Prop := ∀ j, pos ≤ j → j < p → byteAt d j = 10 ∨ (byteAt d j = 13 ∧ j + 1 < p ∧ byteAt d (j + 1) = 10)

theorem Run.refl (d : ByteArray) (pos : Nat) : Run d pos pos := fun j h1 h2 => by omega
theorem Run.one {d : ByteArray} {pos p : Nat} (h : Run d pos p) (hp : byteAt d p = 10) : Run d pos (p + 1) := fun j h1 h2 => by
  by_cases e : j = p
  · subst e; exact .inl hp
  · rcases h j h1 (by omega) with h | ⟨a, b, c⟩
    · exact .inl h
    · exact .inr ⟨a, by omega, c⟩
theorem Run.two {d : ByteArray} {pos p : Nat} (h : Run d pos p) (hp : byteAt d p = 13) (hq : byteAt d (p + 1) = 10) : Run d pos (p + 2) := fun j h1 h2 => by
  by_cases e : j = p
  · subst e; exact .inr ⟨hp, by omega, hq⟩
  · by_cases e2 : j = p + 1
    · subst e2; exact .inl hq
    · rcases h j h1 (by omega) with h | ⟨a, b, c⟩
      · exact .inl h
      · exact .inr ⟨a, by omega, c⟩

/-- l is line with m added, as int's arithmetic goes. -/
def Cong (line l : Int) (m : Nat) : Prop := ∃ q : Int, l = line + m + q * 18446744073709551616
theorem Cong.zero (line : Int) : Cong line line 0 := ⟨0, by omega⟩
theorem Cong.succ {line l : Int} {m : Nat} (h : Cong line l m) : Cong line (wrap64 (l + 1)) (m + 1) := by
  obtain ⟨q, rfl⟩ := h
  unfold wrap64
  refine ⟨q - (line + m + q * 18446744073709551616 + 1 + 9223372036854775808) / 18446744073709551616, ?_⟩
  omega
theorem Cong.sub {line l : Int} {m : Nat} (h : Cong line l m) (hm : m ≤ 1048576) : wrap64 (l - line) = m := by
  obtain ⟨q, rfl⟩ := h
  unfold wrap64
  omega

theorem cnt_one {d : ByteArray} {pos p : Nat} (h : pos ≤ p) (hp : byteAt d p = 10) : cnt d pos (p + 1 - pos) = cnt d pos (p - pos) + 1 := by
  rw [show p + 1 - pos = (p - pos) + 1 by omega]
  simp only [cnt]
  rw [show pos + (p - pos) = p by omega, if_pos hp]
theorem cnt_other {d : ByteArray} {pos p : Nat} (h : pos ≤ p) (hp : byteAt d p ≠ 10) : cnt d pos (p + 1 - pos) = cnt d pos (p - pos) := by
  rw [show p + 1 - pos = (p - pos) + 1 by omega]
  simp only [cnt]
  rw [show pos + (p - pos) = p by omega, if_neg hp]; rfl
theorem cnt_two {d : ByteArray} {pos p : Nat} (h : pos ≤ p) (hp : byteAt d p = 13) (hq : byteAt d (p + 1) = 10) : cnt d pos (p + 2 - pos) = cnt d pos (p - pos) + 1 := by
  rw [show p + 2 - pos = (p + 1) + 1 - pos by omega, cnt_one (by omega) hq, cnt_other h (by omega)]

end Go.Proofs.Qxb6603859a
