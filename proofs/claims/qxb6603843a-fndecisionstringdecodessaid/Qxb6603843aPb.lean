/-
  Plain mathematics for the second law of the seat: where each byte of the line lies.
-/
import Derived.Test.Qxb6603843aPure
import Derived.Lib.Strings
namespace Go.Proofs.Qxb6603843a

theorem ba_ext {a b : ByteArray} (h : a.data.toList = b.data.toList) : a = b := by
  cases a; cases b; simp at h; subst h; rfl

theorem ba_get (a : ByteArray) (i : Nat) (h : i < a.size) : a.data.toList[i]? = some (a[i]'h) := by
  rw [List.getElem?_eq_getElem (by simpa using h)]; rfl

theorem ba_get_of {a : ByteArray} {i : Nat} {x : UInt8} (h : i < a.size) (e : a.data.toList[i]? = some x) : a[i]'h = x := by
  rw [ba_get a i h] at e; exact Option.some.inj e

theorem ba_append (a b : ByteArray) : (a ++ b).data.toList = a.data.toList ++ b.data.toList := by simp

theorem ba_extract (a : ByteArray) (i j : Nat) : (a.extract i j).data.toList = (a.data.toList.take j).drop i := by
  simp [List.drop_take]

/-- Where piece k begins. -/
def offP (S : Nat → ByteArray) (k : Nat) : Nat := sumLen S k + k

theorem joined_split (S : Nat → ByteArray) (n k : Nat) (h : k < n) :
    ∃ P Q, joinedL S n = P ++ ((S k).data.toList ++ Q) ∧ P.length = offP S k ∧ (k + 1 = n → Q = []) ∧ (k + 1 < n → ∃ Q', Q = 44 :: Q') := by
  induction n with
  | zero => omega
  | succ n ih =>
    by_cases e : k = n
    · subst e
      by_cases h0 : k = 0
      · subst h0
        exact ⟨[], [], by simp [joinedL_one], by simp [offP, sumLen], fun _ => rfl, fun h => by omega⟩
      · refine ⟨joinedL S k ++ [44], [], by rw [joinedL_succ S k (by omega)]; simp, ?_, fun _ => rfl, fun h => by omega⟩
        rw [List.length_append, joinedL_length S k (by omega)]
        simp only [offP, List.length_cons, List.length_nil]; omega
    · obtain ⟨P, Q, h1, h2, h3, h4⟩ := ih (by omega)
      refine ⟨P, Q ++ ([44] ++ (S n).data.toList), by rw [joinedL_succ S n (by omega), h1]; simp, h2, fun h => by omega, fun _ => ?_⟩
      by_cases e2 : k + 1 = n
      · rw [h3 e2]; exact ⟨_, rfl⟩
      · obtain ⟨Q', rfl⟩ := h4 (by omega)
        exact ⟨_, rfl⟩

/-- What follows the id. -/
def restB (S : Nat → ByteArray) (n : Nat) : ByteArray := if n = 0 then accB else rejB ++ joined S n

theorem decStr_eq (id : ByteArray) (S : Nat → ByteArray) (n : Nat) : decStr id S n = instrB ++ id ++ restB S n := by
  unfold decStr restB
  by_cases h : n = 0
  · rw [if_pos h, if_pos h]
  · rw [if_neg h, if_neg h]; apply ba_ext; simp

theorem instrB_size : instrB.size = 12 := rfl
theorem rejB_size : rejB.size = 16 := rfl
theorem accB_size : accB.size = 7 := rfl

theorem restB_size (S : Nat → ByteArray) (n : Nat) (h : 0 < n) : (restB S n).size + 1 = 16 + offP S n := by
  unfold restB
  rw [if_neg (by omega), ByteArray.size_append, joined_size S n h, rejB_size]
  unfold offP; omega

theorem restB_pos (S : Nat → ByteArray) (n : Nat) : ∃ l, (restB S n).data.toList = 61 :: l := by
  unfold restB
  by_cases h : n = 0
  · rw [if_pos h]; exact ⟨_, rfl⟩
  · rw [if_neg h, ba_append]; exact ⟨_, rfl⟩

theorem dec_word (id : ByteArray) (S : Nat → ByteArray) (n : Nat) : instrB.size ≤ (decStr id S n).size ∧ ∀ (i : Nat) (h : i < instrB.size) (h' : i < (decStr id S n).size), (decStr id S n)[i]'h' = instrB[i]'h := by
  have e : (decStr id S n).size = 12 + id.size + (restB S n).size := by rw [decStr_eq, ByteArray.size_append, ByteArray.size_append, instrB_size]
  refine ⟨by rw [e, instrB_size]; omega, fun i h h' => ba_get_of h' ?_⟩
  rw [decStr_eq, ba_append, ba_append, List.append_assoc, List.getElem?_append_left (by simpa using h)]
  exact ba_get _ _ h

theorem dec_size (id : ByteArray) (S : Nat → ByteArray) (n : Nat) : (decStr id S n).size = 12 + id.size + (restB S n).size := by
  rw [decStr_eq, ByteArray.size_append, ByteArray.size_append, instrB_size]

theorem restB_ne (S : Nat → ByteArray) (n : Nat) : 0 < (restB S n).size := by
  obtain ⟨l, h⟩ := restB_pos S n
  have : (restB S n).size = (restB S n).data.toList.length := by simp
  rw [this, h]; simp

/-- The bytes of the id. -/
theorem dec_id (id : ByteArray) (S : Nat → ByteArray) (n k : Nat) (h1 : 12 ≤ k) (h2 : k < 12 + id.size) (h' : k < (decStr id S n).size) : (decStr id S n)[k]'h' = id[k - 12]'(by omega) := by
  refine ba_get_of h' ?_
  rw [decStr_eq, ba_append, ba_append, List.append_assoc, List.getElem?_append_right (by simp [instrB_size]; omega), List.getElem?_append_left (by simp [instrB_size]; omega)]
  simp only [Array.length_toList, ByteArray.size_data, instrB_size]
  exact ba_get _ _ _

theorem dec_eq (id : ByteArray) (S : Nat → ByteArray) (n : Nat) (h' : 12 + id.size < (decStr id S n).size) : (decStr id S n)[12 + id.size]'h' = 61 := by
  refine ba_get_of h' ?_
  obtain ⟨l, hl⟩ := restB_pos S n
  rw [decStr_eq, ba_append, ba_append, hl, List.getElem?_append_right (by simp [instrB_size])]
  simp [instrB_size]

theorem dec_ext_id (id : ByteArray) (S : Nat → ByteArray) (n : Nat) : (decStr id S n).extract 12 (12 + id.size) = id := by
  apply ba_ext
  rw [ba_extract, decStr_eq, ba_append, ba_append, List.append_assoc]
  rw [show 12 = instrB.data.toList.length from rfl, List.take_length_add_append, List.drop_left]
  rw [show id.size = id.data.toList.length by simp, List.take_left]

theorem dec_ext_rest (id : ByteArray) (S : Nat → ByteArray) (n : Nat) : (decStr id S n).extract (12 + id.size) (decStr id S n).size = restB S n := by
  apply ba_ext
  rw [ba_extract, List.take_of_length_le (by simp), decStr_eq, ba_append, ba_append]
  rw [show 12 + id.size = (instrB.data.toList ++ id.data.toList).length by simp [instrB_size], List.drop_left]

theorem rest_word (S : Nat → ByteArray) (n : Nat) (h : 0 < n) : rejB.size ≤ (restB S n).size ∧ ∀ (i : Nat) (h : i < rejB.size) (h' : i < (restB S n).size), (restB S n)[i]'h' = rejB[i]'h := by
  have e : restB S n = rejB ++ joined S n := by unfold restB; rw [if_neg (by omega)]
  refine ⟨by rw [e, ByteArray.size_append]; omega, fun i h h' => ba_get_of h' ?_⟩
  rw [e, ba_append, List.getElem?_append_left (by simpa using h)]
  exact ba_get _ _ h

theorem rest_ne_acc (S : Nat → ByteArray) (n : Nat) (h : 0 < n) : ((restB S n).data.toList == [61, 97, 99, 99, 101, 112, 116]) = false := by
  have e : restB S n = rejB ++ joined S n := by unfold restB; rw [if_neg (by omega)]
  rw [e, ba_append]
  simp only [beq_eq_false_iff_ne, ne_eq]
  intro h
  have := congrArg (fun l => l[1]?) h
  simp [rejB] at this

theorem rest_split (S : Nat → ByteArray) (n k : Nat) (h : k < n) :
    ∃ P Q, (restB S n).data.toList = P ++ ((S k).data.toList ++ Q) ∧ P.length = 16 + offP S k ∧ (k + 1 = n → Q = []) ∧ (k + 1 < n → ∃ Q', Q = 44 :: Q') := by
  obtain ⟨P, Q, h1, h2, h3, h4⟩ := joined_split S n k h
  have e : restB S n = rejB ++ joined S n := by unfold restB; rw [if_neg (by omega)]
  refine ⟨rejB.data.toList ++ P, Q, ?_, by rw [List.length_append, h2]; rfl, h3, h4⟩
  rw [e, ba_append]
  unfold joined
  simp [h1]

theorem rest_in (S : Nat → ByteArray) (n k j : Nat) (h : k < n) (h1 : 16 + offP S k ≤ j) (h2 : j < 16 + offP S k + (S k).size) (h' : j < (restB S n).size) :
    (restB S n)[j]'h' = (S k)[j - (16 + offP S k)]'(by omega) := by
  obtain ⟨P, Q, e, hP, _, _⟩ := rest_split S n k h
  refine ba_get_of h' ?_
  rw [e, List.getElem?_append_right (by omega), hP, List.getElem?_append_left (by simp; omega)]
  exact ba_get _ _ _

theorem rest_comma (S : Nat → ByteArray) (n k : Nat) (h : k + 1 < n) (h' : 16 + offP S k + (S k).size < (restB S n).size) :
    (restB S n)[16 + offP S k + (S k).size]'h' = 44 := by
  obtain ⟨P, Q, e, hP, _, h4⟩ := rest_split S n k (by omega)
  obtain ⟨Q', rfl⟩ := h4 h
  refine ba_get_of h' ?_
  rw [e, List.getElem?_append_right (by omega), hP, List.getElem?_append_right (by simp)]
  simp

theorem rest_ext (S : Nat → ByteArray) (n k : Nat) (h : k < n) : (restB S n).extract (16 + offP S k) (16 + offP S k + (S k).size) = S k := by
  obtain ⟨P, Q, e, hP, _, _⟩ := rest_split S n k h
  apply ba_ext
  rw [ba_extract, e, ← hP, List.take_length_add_append, List.drop_left]
  rw [show (S k).size = (S k).data.toList.length by simp, List.take_left]

theorem offP_succ (S : Nat → ByteArray) (k : Nat) : offP S (k + 1) = offP S k + (S k).size + 1 := by simp only [offP, sumLen]; omega
theorem offP_mono (S : Nat → ByteArray) {k n : Nat} (h : k ≤ n) : offP S k ≤ offP S n := by have := sumLen_mono S h; unfold offP; omega

end Go.Proofs.Qxb6603843a
