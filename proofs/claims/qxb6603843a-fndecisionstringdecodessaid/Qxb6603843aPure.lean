/-
  Plain mathematics for the seat Qxb6603843a: lists and sums of lengths. Nothing of the dump.
-/
import Derived.WalkKit
import Derived.Lib.Join
namespace Go.Proofs.Qxb6603843a

/-- The sum of the first k strings' lengths. -/
def sumLen (S : Nat → ByteArray) : Nat → Nat
  | 0 => 0
  | k + 1 => sumLen S k + (S k).size

theorem sumLen_mono (S : Nat → ByteArray) {k n : Nat} (h : k ≤ n) : sumLen S k ≤ sumLen S n := by
  induction n with
  | zero => have : k = 0 := by omega
            subst this; exact Nat.le_refl _
  | succ n ih =>
    by_cases e : k = n + 1
    · subst e; exact Nat.le_refl _
    · have := ih (by omega)
      simp only [sumLen]; omega

theorem sumLen_le (S : Nat → ByteArray) {k n : Nat} (h : k < n) : (S k).size ≤ sumLen S n := by
  have := sumLen_mono S (show k + 1 ≤ n from h)
  simp only [sumLen] at this; omega

def instrB : ByteArray := ⟨#[105, 110, 115, 116, 114, 117, 99, 116, 105, 111, 110, 46]⟩
def accB : ByteArray := ⟨#[61, 97, 99, 99, 101, 112, 116]⟩
def rejB : ByteArray := ⟨#[61, 114, 101, 106, 101, 99, 116, 32, 114, 101, 97, 115, 111, 110, 115, 61]⟩

/-- The first n strings, as lists of bytes. -/
def bytesOf (S : Nat → ByteArray) (n : Nat) : List (List UInt8) := ((List.range n).map S).map (·.data.toList)

/-- The first n strings with commas between. -/
def joinedL (S : Nat → ByteArray) (n : Nat) : List UInt8 := Lib.join (bytesOf S n) [44]
def joined (S : Nat → ByteArray) (n : Nat) : ByteArray := ⟨(joinedL S n).toArray⟩

/-- The decision's line. -/
def decStr (id : ByteArray) (S : Nat → ByteArray) (n : Nat) : ByteArray :=
  if n = 0 then instrB ++ id ++ accB else instrB ++ id ++ rejB ++ joined S n

theorem joined_tail_snoc (l : List (List UInt8)) (x : List UInt8) (h : l ≠ []) : Lib.join (l ++ [x]) [44] = Lib.join l [44] ++ ([44] ++ x) := by
  induction l with
  | nil => exact absurd rfl h
  | cons a t ih =>
    cases t with
    | nil => simp [Lib.join, List.intercalate]
    | cons b t =>
      have := ih (by simp)
      simp only [Lib.join, List.intercalate, List.cons_append, List.intersperse_cons_cons, List.flatten_cons] at this ⊢
      rw [this]; simp [List.append_assoc]

theorem bytesOf_succ (S : Nat → ByteArray) (n : Nat) : bytesOf S (n + 1) = bytesOf S n ++ [(S n).data.toList] := by
  simp [bytesOf, List.range_succ]

theorem joinedL_one (S : Nat → ByteArray) : joinedL S 1 = (S 0).data.toList := by
  simp [joinedL, bytesOf, Lib.join, List.intercalate]

theorem joinedL_succ (S : Nat → ByteArray) (n : Nat) (h : 0 < n) : joinedL S (n + 1) = joinedL S n ++ ([44] ++ (S n).data.toList) := by
  unfold joinedL
  rw [bytesOf_succ, joined_tail_snoc]
  intro e
  have := congrArg List.length e
  simp [bytesOf] at this
  omega

theorem joinedL_length (S : Nat → ByteArray) (n : Nat) (h : 0 < n) : (joinedL S n).length = sumLen S n + (n - 1) := by
  induction n with
  | zero => omega
  | succ n ih =>
    by_cases e : n = 0
    · subst e; rw [joinedL_one]; simp [sumLen]
    · rw [joinedL_succ S n (by omega)]
      simp only [List.length_append, List.length_cons, List.length_nil, sumLen]
      rw [ih (by omega)]
      simp only [Array.length_toList, ByteArray.size]
      omega

theorem joined_size (S : Nat → ByteArray) (n : Nat) (h : 0 < n) : (joined S n).size = sumLen S n + (n - 1) := by
  unfold joined
  simp only [ByteArray.size, List.size_toArray]
  exact joinedL_length S n h

theorem decStr_size (id : ByteArray) (S : Nat → ByteArray) (n : Nat) : (decStr id S n).size = 12 + id.size + (if n = 0 then 7 else 16 + (n - 1) + sumLen S n) := by
  unfold decStr
  have h1 : instrB.size = 12 := rfl
  have h2 : accB.size = 7 := rfl
  have h3 : rejB.size = 16 := rfl
  by_cases h : n = 0
  · rw [if_pos h, if_pos h]; simp only [ByteArray.size_append]; omega
  · rw [if_neg h, if_neg h]; simp only [ByteArray.size_append]; rw [joined_size S n (by omega)]; omega

end Go.Proofs.Qxb6603843a
