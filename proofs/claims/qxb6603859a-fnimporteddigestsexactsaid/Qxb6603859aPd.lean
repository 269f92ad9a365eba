import Derived.Test.Qxb6603859aWe
namespace Go.Proofs.Qxb6603859a
open Go.RowKit Go.Deep Go.Maps
set_option linter.unusedVariables false

theorem tl_inj {a b : ByteArray} (h : tl a = tl b) : a = b := by
  cases a; cases b; simp [tl] at h; subst h; rfl

/-! ### The digests met so far -/
def GI (T : Nat → List UInt8) (m i : Nat) (Gs : List (List UInt8)) : Prop :=
  Gs.Nodup ∧ (∀ d, d ∈ Gs ↔ ∃ p, p < i ∧ dig (T p) = d) ∧ ∀ p q, p < i → i ≤ q → q < m → dig (T p) ≠ dig (T q)

theorem GI.start (T : Nat → List UInt8) (m : Nat) : GI T m 0 [] := ⟨List.nodup_nil, fun d => by simp, fun p q h => by omega⟩

theorem GI.step {T : Nat → List UInt8} {m i j : Nat} {Gs : List (List UInt8)} (h : GI T m i Gs) (hs : SortedTo T m) (hij : i < j) (hjm : j ≤ m) (hall : ∀ p, i ≤ p → p < j → dig (T p) = dig (T i)) (hx : j < m → dig (T j) ≠ dig (T i)) : GI T m j (Gs ++ [dig (T i)]) := by
  obtain ⟨h1, h2, h3⟩ := h
  have hnew : dig (T i) ∉ Gs := fun hm => by
    obtain ⟨p, hp, e⟩ := (h2 _).1 hm
    exact h3 p i hp (Nat.le_refl _) (by omega) e
  refine ⟨List.nodup_append.2 ⟨h1, by simp, fun a ha b hb => by simp at hb; subst hb; exact fun e => hnew (e ▸ ha)⟩, fun d => ?_, fun p q hp hq hqm => ?_⟩
  · rw [List.mem_append, List.mem_singleton, h2 d]
    constructor
    · rintro (⟨p, hp, e⟩ | rfl)
      · exact ⟨p, by omega, e⟩
      · exact ⟨i, hij, rfl⟩
    · rintro ⟨p, hp, rfl⟩
      by_cases e : p < i
      · exact .inl ⟨p, e, rfl⟩
      · exact .inr (hall p (by omega) hp)
  · by_cases e : p < i
    · exact h3 p q e (by omega) hqm
    · rw [hall p (by omega) hp]
      intro e2
      refine hx (by omega) ?_
      have hle : dig (T i) ≤ dig (T j) := (hs i j hij (by omega)).1
      refine List.le_antisymm ?_ hle
      by_cases e3 : q = j
      · subst e3; rw [← e2]; exact List.le_refl _
      · have := (hs j q (by omega) hqm).1
        rw [← e2] at this
        exact this

/-! ### One group, without repeats -/
structure WI (U : Nat → ByteArray) (i j : Nat) (g : List UInt8) (ws : List ByteArray) : Prop where
  all : ∀ p, i ≤ p → p < j → dig (tl (U p)) = g
  mem : ∀ x, x ∈ ws ↔ ∃ p, i ≤ p ∧ p < j ∧ U p = x
  strict : Strict (ws.map tl)
  last : i < j → ws.getLast? = some (U (j - 1))
  len : ws.length ≤ j - i
  emp : ws = [] → j ≤ i

theorem WI.start (U : Nat → ByteArray) (i : Nat) (g : List UInt8) : WI U i i g [] :=
  ⟨fun p h1 h2 => by omega, fun x => by simp; intro p h1 h2; omega, List.Pairwise.nil, fun h => by omega, by simp, fun _ => Nat.le_refl _⟩

theorem WI.add {U : Nat → ByteArray} {m i j : Nat} {g : List UInt8} {ws : List ByteArray} (h : WI U i j g ws) (hs : SortedTo (fun p => tl (U p)) m) (hij : i ≤ j) (hj : j < m) (hd : dig (tl (U j)) = g) (hx : ws = [] ∨ U (j - 1) ≠ U j) : WI U i (j + 1) g (ws ++ [U j]) := by
  refine ⟨fun p h1 h2 => ?_, fun x => ?_, ?_, fun _ => by simp, by have := h.len; simp; omega, fun e => by simp at e⟩
  · by_cases e : p = j
    · subst e; exact hd
    · exact h.all p h1 (by omega)
  · rw [List.mem_append, List.mem_singleton, h.mem x]
    constructor
    · rintro (⟨p, h1, h2, e⟩ | rfl)
      · exact ⟨p, h1, by omega, e⟩
      · exact ⟨j, hij, by omega, rfl⟩
    · rintro ⟨p, h1, h2, rfl⟩
      by_cases e : p = j
      · subst e; exact .inr rfl
      · exact .inl ⟨p, h1, by omega, rfl⟩
  · rw [List.map_append]
    refine List.pairwise_append.2 ⟨h.strict, by simp, fun a ha b hb => ?_⟩
    obtain ⟨y, hy, rfl⟩ := List.mem_map.1 ha
    simp at hb
    subst hb
    obtain ⟨p, hp1, hp2, rfl⟩ := (h.mem y).1 hy
    have hle : tl (U p) ≤ tl (U j) := (hs p j hp2 hj).2 ((h.all p hp1 hp2).trans hd.symm)
    refine List.not_le.1 (fun hge => ?_)
    have e1 : tl (U p) = tl (U j) := List.le_antisymm hle hge
    rcases hx with hx | hx
    · rw [hx] at hy; simp at hy
    · apply hx
      apply tl_inj
      have hjj : dig (tl (U (j - 1))) = g := h.all (j - 1) (by omega) (by omega)
      have h2 : tl (U (j - 1)) ≤ tl (U j) := (hs (j - 1) j (by omega) hj).2 (hjj.trans hd.symm)
      have h3 : tl (U p) ≤ tl (U (j - 1)) := by
        by_cases e : p = j - 1
        · rw [e]; exact List.le_refl _
        · exact (hs p (j - 1) (by omega) (by omega)).2 ((h.all p hp1 hp2).trans hjj.symm)
      rw [e1] at h3
      exact List.le_antisymm h2 h3

theorem WI.skip {U : Nat → ByteArray} {i j : Nat} {g : List UInt8} {ws : List ByteArray} (h : WI U i j g ws) (hij : i < j) (hd : dig (tl (U j)) = g) (hx : U (j - 1) = U j) : WI U i (j + 1) g ws := by
  refine ⟨fun p h1 h2 => ?_, fun x => ?_, h.strict, fun _ => by rw [Nat.add_sub_cancel, ← hx]; exact h.last hij, by have := h.len; omega, fun e => by have := h.emp e; omega⟩
  · by_cases e : p = j
    · subst e; exact hd
    · exact h.all p h1 (by omega)
  · rw [h.mem x]
    constructor
    · rintro ⟨p, h1, h2, e⟩; exact ⟨p, h1, by omega, e⟩
    · rintro ⟨p, h1, h2, rfl⟩
      by_cases e : p = j
      · subst e; exact ⟨p - 1, by omega, by omega, hx⟩
      · exact ⟨p, h1, by omega, rfl⟩

/-- The group's list is what the map holds. -/
theorem WI.eq {U U0 S : Nat → ByteArray} {m n i j : Nat} {g : List UInt8} {ws : List ByteArray} {ss Gs : List (List UInt8)} (h : WI U i j g ws) (hs : SortedTo (fun p => tl (U p)) m) (hij : i < j) (hjm : j ≤ m) (hx : j < m → dig (tl (U j)) ≠ g) (hG : GI (fun p => tl (U p)) m i Gs) (hg : g = dig (tl (U i)))
    (hnd : ss.Nodup) (hmem : ∀ x, x ∈ ss ↔ ∃ j, j < n ∧ tl (S j) = x) (hM : ∀ x, (∃ p, p < m ∧ U0 p = x) ↔ ∃ j, j < n ∧ S j = x ∧ x.size = 48) (hSm : SameTo U U0 m) :
    (Fof ss g).mergeSort leB = ws.map tl := by
  refine strict_ext (sorted_strict (List.Pairwise.filter _ hnd)) h.strict fun x => ?_
  rw [(List.mergeSort_perm _ _).mem_iff, List.mem_map]
  unfold Fof
  rw [List.mem_filter, hmem x]
  constructor
  · rintro ⟨⟨q, hq, rfl⟩, hc⟩
    simp only [Bool.and_eq_true, beq_iff_eq] at hc
    obtain ⟨p, hp, e⟩ := (hSm (S q)).2 ((hM (S q)).2 ⟨q, hq, rfl, by simpa using hc.1⟩)
    refine ⟨S q, (h.mem _).2 ⟨p, ?_, ?_, e⟩, rfl⟩
    · rcases Nat.lt_or_ge p i with hlt | hge
      · have := hG.2.2 p i hlt (Nat.le_refl _) (by omega)
        exact absurd (by show dig (tl (U p)) = dig (tl (U i)); rw [e, ← hg]; exact hc.2) this
      · exact hge
    · rcases Nat.lt_or_ge p j with hlt | hge
      · exact hlt
      · exfalso
        refine hx (by omega) ?_
        have h1 : dig (tl (U i)) ≤ dig (tl (U j)) := (hs i j hij (by omega)).1
        refine List.le_antisymm ?_ (by rw [hg]; exact h1)
        have hpg : dig (tl (U p)) = g := by rw [e]; exact hc.2
        by_cases e3 : p = j
        · rw [← e3, hpg]; exact List.le_refl _
        · have := (hs j p (by omega) hp).1
          rw [← hpg]; exact this
  · rintro ⟨y, hy, rfl⟩
    obtain ⟨p, h1, h2, rfl⟩ := (h.mem y).1 hy
    obtain ⟨q, hq, e, h48⟩ := (hM (U p)).1 ((hSm (U p)).1 ⟨p, by omega, rfl⟩)
    refine ⟨⟨q, hq, by rw [e]⟩, ?_⟩
    simp only [Bool.and_eq_true, beq_iff_eq]
    exact ⟨by simpa using h48, h.all p h1 h2⟩

/-- How many entries the map has. -/
theorem grp_size {w : World} {lo bm mm : Nat} {D : DataW Value} {F : List UInt8 → List (List UInt8)} {V : List UInt8 → Value} (hG : Grp w lo bm mm D F V) {Gs : List (List UInt8)} (hn : Gs.Nodup) (hm : ∀ g, g ∈ Gs ↔ F g ≠ []) : Maps.size D = Gs.length := by
  obtain ⟨es, he, hpw, _⟩ := hG.own.entries law9
  obtain ⟨es', he', hko⟩ := hG.own.keysOf
  have hes : es = es' := by rw [he] at he'; simpa using he'
  subst hes
  have hh := hG.hask
  subst he
  have hp := perm_strKeys hpw (fun p hp => by obtain ⟨v, hv⟩ := hko p hp; obtain ⟨x, _, hx, _⟩ := Maps.keyOf_str Try.underlying9 hv; exact ⟨x, hx⟩) hn (fun x => by rw [hm x, hh x]; simp)
  rw [size_eq, hp.length_eq]
  simp [strKeys]

/-- At the end every digest has been met. -/
theorem GI.size {U U0 S : Nat → ByteArray} {m n lo bm mm : Nat} {ss Gs : List (List UInt8)} {w : World} {D : DataW Value} {V : List UInt8 → Value} (h : GI (fun p => tl (U p)) m m Gs) (hG : Grp w lo bm mm D (fun g => (Fof ss g).mergeSort leB) V)
    (hmem : ∀ x, x ∈ ss ↔ ∃ j, j < n ∧ tl (S j) = x) (hM : ∀ x, (∃ p, p < m ∧ U0 p = x) ↔ ∃ j, j < n ∧ S j = x ∧ x.size = 48) (hSm : SameTo U U0 m) : Maps.size D = Gs.length := by
  refine grp_size hG h.1 fun g => ?_
  rw [h.2.1 g]
  have hne : (Fof ss g).mergeSort leB ≠ [] ↔ ∃ x, x ∈ Fof ss g := by
    rw [ne_eq, ← List.length_eq_zero_iff, List.length_mergeSort, List.length_eq_zero_iff]
    exact ⟨fun h => List.exists_mem_of_ne_nil _ h, fun ⟨x, hx⟩ e => by rw [e] at hx; simp at hx⟩
  rw [hne]
  constructor
  · rintro ⟨p, hp, e⟩
    obtain ⟨q, hq, eq, h48⟩ := (hM (U p)).1 ((hSm (U p)).1 ⟨p, hp, rfl⟩)
    refine ⟨tl (U p), ?_⟩
    unfold Fof
    rw [List.mem_filter, hmem]
    simp only [Bool.and_eq_true, beq_iff_eq]
    exact ⟨⟨q, hq, by rw [eq]⟩, by simpa using h48, e⟩
  · rintro ⟨x, hx⟩
    unfold Fof at hx
    rw [List.mem_filter, hmem] at hx
    simp only [Bool.and_eq_true, beq_iff_eq] at hx
    obtain ⟨⟨q, hq, rfl⟩, h48, hg⟩ := hx
    obtain ⟨p, hp, e⟩ := (hSm (S q)).2 ((hM (S q)).2 ⟨q, hq, rfl, by simpa using h48⟩)
    exact ⟨p, hp, by show dig (tl (U p)) = g; rw [e]; exact hg⟩

theorem below_grown {w w' : World} (h : Below w.heap.size w w') : w.grownBy w' none := ⟨h.os, h.tape, h.output, h.size, fun k hk _ => h.block k hk⟩

theorem Grp.below {w w' : World} {lo bm mm : Nat} {D : DataW Value} {F : List UInt8 → List (List UInt8)} {V : List UInt8 → Value} (hG : Grp w lo bm mm D F V) (h : Below w.heap.size w w') : Grp w' lo bm mm D F V :=
  hG.kept (below_grown h) (fun q e => by cases e)

/-- 'have, present := got[g]'. -/
theorem Grp.lookOk {wr : World} {lo bm m : Nat} {D : DataW Value} {F : List UInt8 → List (List UInt8)} {V : List UInt8 → Value} (h : Grp wr lo bm m D F V) (s : ByteArray) (hs : s.size ≤ maxLen) (hF : F (tl s) ≠ []) :
    (Instr.lookup 28 (.map (some bm)) (.string s) true).run Try.prog wr = .ok (.tuple #[V (tl s), .bool true]) wr := by
  obtain ⟨v, ps, hrun, hv⟩ := h.own.look_ok law9 Try.underlying28 (zero25 wr) (zd := .held nilS) (zp := []) rfl (WideMaps.keyOf_string_mk Try.underlying9 hs)
  rw [h.atk] at hv
  simp only [tokR, Option.some.injEq, Prod.mk.injEq, DataW.held.injEq] at hv
  rw [hrun, hv.1, h.hask]
  simp [hF]

end Go.Proofs.Qxb6603859a
