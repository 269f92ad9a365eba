/-
  Plain mathematics for FnImportedDigestsExact: the order by digest and by bytes, insertion, groups.
-/
import Derived.WalkKit
import Derived.Sort.KeysCollected
namespace Go.Proofs.Qxb6603859a

theorem bless : ∀ (x y : List UInt8), Op.bytesLess x y = decide (x < y)
  | [], [] => by simp [Op.bytesLess]
  | _ :: _, [] => by simp [Op.bytesLess]
  | [], _ :: _ => by simp [Op.bytesLess]
  | a :: x, b :: y => by
    rw [Op.bytesLess, bless x y, Bool.eq_iff_iff]
    simp only [Bool.or_eq_true, Bool.and_eq_true, decide_eq_true_eq, beq_iff_eq, List.cons_lt_cons_iff]

/-- The digest. -/
abbrev dig (x : List UInt8) : List UInt8 := x.drop 16

/-- zzDigestLess. -/
def lessL (a b : List UInt8) : Bool := if dig a = dig b then decide (a < b) else decide (dig a < dig b)

def leL (a b : List UInt8) : Prop := dig a ≤ dig b ∧ (dig a = dig b → a ≤ b)

theorem leL_of {a b : List UInt8} (h : lessL b a = false) : leL a b := by
  unfold lessL at h
  by_cases e : dig b = dig a
  · rw [if_pos e] at h
    have h' : ¬ b < a := by simpa using h
    exact ⟨by rw [e]; exact List.le_refl _, fun _ => List.not_lt.1 h'⟩
  · rw [if_neg e] at h
    have h' : ¬ dig b < dig a := of_decide_eq_false h
    exact ⟨List.not_lt.1 h', fun e' => absurd e'.symm e⟩

theorem leL_of_less {a b : List UInt8} (h : lessL a b = true) : leL a b := by
  unfold lessL at h
  by_cases e : dig a = dig b
  · rw [if_pos e] at h
    have h' : a < b := by simpa using h
    exact ⟨by rw [e]; exact List.le_refl _, fun _ => List.le_of_lt h'⟩
  · rw [if_neg e] at h
    have h' : dig a < dig b := of_decide_eq_true h
    exact ⟨List.le_of_lt h', fun e' => absurd e' e⟩

theorem leL_trans {a b c : List UInt8} (h1 : leL a b) (h2 : leL b c) : leL a c := by
  refine ⟨List.le_trans h1.1 h2.1, fun e => ?_⟩
  have hba : dig b ≤ dig a := by rw [e]; exact h2.1
  have eab : dig a = dig b := List.le_antisymm h1.1 hba
  exact List.le_trans (h1.2 eab) (h2.2 (eab ▸ e))

/-! ### Insertion -/
def SortedTo (T : Nat → List UInt8) (i : Nat) : Prop := ∀ p q, p < q → q < i → leL (T p) (T q)
def Ins (T : Nat → List UInt8) (i j : Nat) : Prop :=
  j ≤ i ∧ (∀ p q, p < q → q ≤ i → p ≠ j → q ≠ j → leL (T p) (T q)) ∧ (∀ q, j < q → q ≤ i → leL (T j) (T q))

theorem SortedTo.one (T : Nat → List UInt8) : SortedTo T 1 := fun p q h1 h2 => by omega
theorem Ins.start {T : Nat → List UInt8} {i : Nat} (h : SortedTo T i) : Ins T i i := ⟨Nat.le_refl _, fun p q h1 h2 _ h3 => h p q h1 (by omega), fun q h1 h2 => by omega⟩

/-- Two neighbours change places. -/
def swp {α : Type} (T : Nat → α) (j : Nat) (p : Nat) : α := if p = j then T (j - 1) else if p = j - 1 then T j else T p

theorem Ins.step {T : Nat → List UInt8} {i j : Nat} (h : Ins T i j) (hj : 0 < j) (hl : lessL (T j) (T (j - 1)) = true) : Ins (swp T j) i (j - 1) := by
  obtain ⟨h0, h1, h2⟩ := h
  refine ⟨by omega, fun p q hpq hq hp hq' => ?_, fun q hq1 hq2 => ?_⟩
  · have e1 : swp T j p = if p = j then T (j - 1) else T p := by unfold swp; by_cases e : p = j <;> simp [e, hp]
    have e2 : swp T j q = if q = j then T (j - 1) else T q := by unfold swp; by_cases e : q = j <;> simp [e, hq']
    rw [e1, e2]
    by_cases a : p = j
    · rw [if_pos a]
      rw [if_neg (by omega)]
      exact h1 (j - 1) q (by omega) hq (by omega) (by omega)
    · rw [if_neg a]
      by_cases b : q = j
      · rw [if_pos b]
        exact h1 p (j - 1) (by omega) (by omega) a (by omega)
      · rw [if_neg b]
        exact h1 p q hpq hq a b
  · have e1 : swp T j (j - 1) = T j := by unfold swp; rw [if_neg (by omega), if_pos rfl]
    rw [e1]
    by_cases e : q = j
    · subst e
      have : swp T q q = T (q - 1) := by unfold swp; rw [if_pos rfl]
      rw [this]; exact leL_of_less hl
    · have : swp T j q = T q := by unfold swp; rw [if_neg e, if_neg (by omega)]
      rw [this]; exact h2 q (by omega) hq2

theorem Ins.done {T : Nat → List UInt8} {i j : Nat} (h : Ins T i j) (hx : j = 0 ∨ lessL (T j) (T (j - 1)) = false) : SortedTo T (i + 1) := by
  obtain ⟨h0, h1, h2⟩ := h
  intro p q hpq hq
  by_cases a : p = j
  · subst a; exact h2 q hpq (by omega)
  · by_cases b : q = j
    · subst b
      rcases hx with hx | hx
      · omega
      · have hlast := leL_of hx
        by_cases c : p = q - 1
        · subst c; exact hlast
        · exact leL_trans (h1 p (q - 1) (by omega) (by omega) a (by omega)) hlast
    · exact h1 p q hpq (by omega) a b

/-- The same strings stand among the first m. -/
def SameTo {α : Type} (T U : Nat → α) (m : Nat) : Prop := ∀ x, (∃ p, p < m ∧ T p = x) ↔ ∃ p, p < m ∧ U p = x
theorem SameTo.refl {α : Type} (T : Nat → α) (m : Nat) : SameTo T T m := fun _ => Iff.rfl
theorem SameTo.swap {α : Type} {T U : Nat → α} {m j : Nat} (h : SameTo T U m) (hj : 0 < j) (hm : j < m) : SameTo (swp T j) U m := fun x => by
  rw [← h x]
  constructor
  · rintro ⟨p, hp, e⟩
    unfold swp at e
    by_cases a : p = j
    · rw [if_pos a] at e; exact ⟨j - 1, by omega, e⟩
    · rw [if_neg a] at e
      by_cases b : p = j - 1
      · rw [if_pos b] at e; exact ⟨j, hm, e⟩
      · rw [if_neg b] at e; exact ⟨p, hp, e⟩
  · rintro ⟨p, hp, rfl⟩
    by_cases a : p = j
    · subst a; exact ⟨p - 1, by omega, by unfold swp; rw [if_neg (by omega), if_pos rfl]⟩
    · by_cases b : p = j - 1
      · exact ⟨j, hm, by unfold swp; rw [if_pos rfl, b]⟩
      · exact ⟨p, hp, by unfold swp; rw [if_neg a, if_neg b]⟩

/-! ### Strictly sorted lists with the same members are one -/
abbrev Strict (l : List (List UInt8)) : Prop := l.Pairwise (fun a b => a < b)

theorem strict_ext : ∀ {l l' : List (List UInt8)}, Strict l → Strict l' → (∀ x, x ∈ l ↔ x ∈ l') → l = l'
  | [], [], _, _, _ => rfl
  | [], b :: l', _, _, h => absurd ((h b).2 (by simp)) (by simp)
  | a :: l, [], _, _, h => absurd ((h a).1 (by simp)) (by simp)
  | a :: l, b :: l', h1, h2, h => by
    obtain ⟨ha, hl⟩ := List.pairwise_cons.1 h1
    obtain ⟨hb, hl'⟩ := List.pairwise_cons.1 h2
    have e : a = b := by
      rcases List.mem_cons.1 ((h a).1 (by simp)) with e | e
      · exact e
      · rcases List.mem_cons.1 ((h b).2 (by simp)) with e' | e'
        · exact e'.symm
        · exact absurd (List.lt_trans (ha b e') (hb a e)) (List.lt_irrefl _)
    subst e
    congr 1
    refine strict_ext hl hl' fun x => ?_
    constructor
    · intro hx
      rcases List.mem_cons.1 ((h x).1 (by simp [hx])) with e | e
      · subst e; exact absurd (ha x hx) (List.lt_irrefl _)
      · exact e
    · intro hx
      rcases List.mem_cons.1 ((h x).2 (by simp [hx])) with e | e
      · subst e; exact absurd (hb x hx) (List.lt_irrefl _)
      · exact e

theorem strict_of {l : List (List UInt8)} (h : l.Pairwise (fun a b => a ≤ b)) (hn : l.Nodup) : Strict l := by
  induction l with
  | nil => exact List.Pairwise.nil
  | cons a l ih =>
    obtain ⟨h1, h2⟩ := List.pairwise_cons.1 h
    obtain ⟨n1, n2⟩ := List.nodup_cons.1 hn
    refine List.pairwise_cons.2 ⟨fun b hb => ?_, ih h2 n2⟩
    have hle := h1 b hb
    refine List.not_le.1 (fun hba => n1 ?_)
    rw [List.le_antisymm hle hba]; exact hb

theorem sorted_strict {l : List (List UInt8)} (hn : l.Nodup) : Strict (l.mergeSort leB) := by
  have tr : ∀ a b c : List UInt8, leB a b = true → leB b c = true → leB a c = true := fun a b c h1 h2 => by simp only [leB, decide_eq_true_eq] at *; exact List.le_trans h1 h2
  have to : ∀ a b : List UInt8, (leB a b || leB b a) = true := fun a b => by simp only [leB, Bool.or_eq_true, decide_eq_true_eq]; exact List.le_total a b
  have hp := List.pairwise_mergeSort tr to l
  refine strict_of ?_ ((List.mergeSort_perm l leB).nodup_iff.2 hn)
  rw [List.pairwise_iff_getElem] at hp ⊢
  intro i j hi hj hij
  exact of_decide_eq_true (hp i j hi hj hij)

/-! ### Two lists without repeats and with the same members are as long -/
theorem nodup_length {α : Type} {l l' : List α} (h : l.Nodup) (h' : l'.Nodup) (e : ∀ x, x ∈ l ↔ x ∈ l') : l.length = l'.length := ((List.perm_ext_iff_of_nodup h h').2 e).length_eq

end Go.Proofs.Qxb6603859a
