import Derived.Test.Qxb6603859aWb
namespace Go.Proofs.Qxb6603859a
open Go.RowKit Go.Deep Go.Maps
set_option linter.unusedVariables false

theorem makeMapHint (k : Int) (w : World) : (Instr.makeMap 35 (some (.int .i64 k))).run Try.prog w = .ok (.map (some w.heap.size)) (w.alloc (.map #[] 0)) := by
  simp [Instr.makeMap, run_underlying Try.underlying35, asInt, asIntOf, newObj]
  rfl

theorem size_le {w : World} {b n : Nat} {D : DataW Value} (h : w.ownsMap Try.prog 9 tokR b n D) : Maps.size D ≤ n := by
  obtain ⟨es, clock, _, _, hs, rfl⟩ := h
  rw [size_eq, length_sorted]
  simpa using hs

/-- The keys are the first k strings. -/
def KeysTo (D : DataW Value) (S : Nat → ByteArray) (k : Nat) : Prop := ∀ x, Maps.has D (.string x) = true ↔ ∃ j, j < k ∧ (S j).data.toList = x

theorem KeysTo.start (S : Nat → ByteArray) : KeysTo (.map []) S 0 := fun x => ⟨fun h => by simp [has_eq] at h, fun ⟨j, h, _⟩ => by omega⟩
theorem KeysTo.step {D : DataW Value} {S : Nat → ByteArray} {k : Nat} (h : KeysTo D S k) (hD : IsMap D) (d : DataW Value) : KeysTo (D.put (.string (S k).data.toList) d) S (k + 1) := fun x => by
  by_cases e : x = (S k).data.toList
  · subst e
    rw [has_put_same hD (show WideAt.IsKeyLit (.string _) from trivial)]
    exact ⟨fun _ => ⟨k, by omega, rfl⟩, fun _ => rfl⟩
  · rw [has_put_other (fun e' => e (by simpa using e')), h x]
    constructor
    · rintro ⟨j, hj, rfl⟩; exact ⟨j, by omega, rfl⟩
    · rintro ⟨j, hj, rfl⟩
      refine ⟨j, ?_, rfl⟩
      by_cases e2 : j = k
      · subst e2; exact absurd rfl e
      · omega

/-- What ZZImportedDigests hands back. -/
def ZPost (w : World) (n : Nat) (S : Nat → ByteArray) (e : Ending) (w' : World) : Prop :=
  Below w.heap.size w w' ∧ ∃ lo bm ss m D V, e = .returned (.map (some bm)) ∧ w.heap.size < bm ∧ ss.Nodup ∧ (∀ x, x ∈ ss ↔ ∃ j, j < n ∧ (S j).data.toList = x) ∧ Grp w' lo bm m D (fun g => (Fof ss g).mergeSort leB) V ∧ w.heap.size ≤ lo

theorem zz_end {w wr w' : World} {n k : Nat} {S : Nat → ByteArray} {D0 : DataW Value} {ss : List (List UInt8)} {m : Nat} {D : DataW Value} {V : List UInt8 → Value} (hB : Below w.heap.size w wr) (hB' : Below wr.heap.size wr w') (h0 : wr.ownsMap Try.prog 9 tokR w.heap.size k D0) (hK : KeysTo D0 S n)
    (hp : ss.Nodup ∧ ∀ x, x ∈ ss ↔ Maps.has D0 (.string x) = true) (hG : Grp w' (wr.heap.size + 3) (wr.heap.size + 1) m D (fun g => (Fof ss g).mergeSort leB) V) : ZPost w n S (.returned (.map (some (wr.heap.size + 1)))) w' := by
  have hs := hB.size
  exact ⟨hB.trans (hB'.mono hs), _, _, ss, m, D, V, rfl, by omega, hp.1, fun x => (hp.2 x).trans (hK x), hG, by omega⟩

set_option maxHeartbeats 2000000 in
theorem zz9_some (bl o n cap : Nat) (S : Nat → ByteArray) (w : World) (hn : n ≤ 4096) (hb : bl < w.heap.size) (hS : ∀ j, j < n → (S j).size ≤ 1048576)
    (hc : ∀ j, j < n → w.cell? ⟨bl, o + j, none⟩ = some (.string (S j))) :
    Calls Try.prog 9 #[.slice (some ⟨bl, o, none⟩) n cap] w fun e w' => ZPost w n S e w' := by
  have hmm := fun wx => makeMapHint n wx
  go_enter Try.func9, Try.ntmps9
  go_wp2_with fail
  go_loopw [4] (fun i wr => ∃ (k : Nat) (D : DataW Value), k ≤ n ∧ i = .int .i64 k ∧ wr.ownsMap Try.prog 9 tokR w.heap.size k D ∧ KeysTo D S k ∧ Below w.heap.size w wr) (fun i _ => n - (intOf i).toNat)
  case atStart => exact ⟨0, .map [], Nat.zero_le _, rfl, World.ownsMap_made w Try.prog 9 tokR, KeysTo.start S, (Below.refl _ _).alloc (Nat.le_refl _) _⟩
  case round =>
    obtain ⟨k, D, hk, rfl, hown, hK, hB⟩ := hrel
    clear hmm
    by_cases hlt : k < n
    · have hck : wr.cell? ⟨bl, o + k, none⟩ = some (.string (S k)) := (hB.cell (p := ⟨bl, o + k, none⟩) hb).trans (hc k hlt)
      have hkey := WideMaps.keyOf_string_mk (P := Try.prog) Try.underlying9 (show (S k).size ≤ maxLen by have := hS k hlt; unfold maxLen; omega)
      have hKS := fun d => hK.step (hown.isMap) d
      go_wp2_with (at_mapUpdate; refine wpList_mapUpdate_own _ rfl _ _ _ 35 rfl 9 39 law9 Try.underlying35 tokR w.heap.size k D rfl (hown.alloc _) (by unfold maxLen; omega) _ _ _ rfl rfl hkey _ [] rfl ?_; intro w3 hown3 hg3)
      go_roundw
      case rel => exact ⟨k + 1, _, by omega, by go_num, hown3, hKS _, (hB.alloc hB.size _).grown hg3 (by have := hB.size; simp; omega) (fun j hj => by cases hj; exact Nat.le_refl _)⟩
      case measure => simp [intOf]; omega
    · obtain rfl : n = k := by omega
      have h11 := imp11 w.heap.size n D wr hown.lt hown (by have := size_le hown; omega)
      go_wp2_with fail
      refine h11.mono ?_
      rintro e w6 ⟨rfl, hB6, ss, m, D6, V, hp, hG6⟩
      clear h11
      have HE := zz_end hB hB6 hown hK hp hG6
      clear hG6 hp hK hown
      go_wp2_with fail
      go_ret
      exact HE

set_option maxHeartbeats 1000000 in
theorem zz9_zero (a : Option Addr) (cap : Nat) (S : Nat → ByteArray) (w : World) :
    Calls Try.prog 9 #[.slice a 0 cap] w fun e w' => ZPost w 0 S e w' := by
  have hmm : ∀ wx, (Instr.makeMap 35 (some (.int .i64 0))).run Try.prog wx = .ok (.map (some wx.heap.size)) (wx.alloc (.map #[] 0)) := fun wx => makeMapHint 0 wx
  have h11 := imp11 w.heap.size 0 (.map []) (w.alloc (.map #[] 0)) (by simp) (World.ownsMap_made w Try.prog 9 tokR) (by simp [size_eq])
  go_enter Try.func9, Try.ntmps9
  go_wp2_with fail
  refine wp_loop_rounds 1 ?_
  rw [rounds_succ]
  go_wp2_with fail
  refine h11.mono ?_
  rintro e w6 ⟨rfl, hB6, ss, m, D6, V, hp, hG6⟩
  clear h11 hmm
  have HE := zz_end (k := 0) (S := S) ((Below.refl w.heap.size w).alloc (Nat.le_refl _) _) hB6 (World.ownsMap_made w Try.prog 9 tokR) (KeysTo.start S) hp hG6
  clear hG6 hp
  go_wp2_with fail
  go_ret
  simpa using HE

theorem zz9 (a : Option Addr) (n cap : Nat) (S : Nat → ByteArray) (w : World) (hn : n ≤ 4096) (hS : ∀ j, j < n → (S j).size ≤ 1048576) (hc : Strs w a n S) :
    Calls Try.prog 9 #[.slice a n cap] w fun e w' => ZPost w n S e w' := by
  rcases hc with rfl | ⟨b, o, rfl, hb, hc⟩
  · exact zz9_zero a cap S w
  · exact zz9_some b o n cap S w hn hb hS hc

end Go.Proofs.Qxb6603859a
