import Derived.Test.Qxb6603859aPd
namespace Go.Proofs.Qxb6603859a
open Go.RowKit Go.Deep Go.Maps
set_option linter.unusedVariables false

/-- What the map holds at a digest, as a row. -/
theorem Grp.vrow {w : World} {lo bm mm : Nat} {D : DataW Value} {F : List UInt8 → List (List UInt8)} {V : List UInt8 → Value} (hG : Grp w lo bm mm D F V) {g : List UInt8} {ws : List ByteArray} {l : Nat} (he : F g = ws.map tl) (hl : ws.length = l) (h0 : 0 < l) :
    ∃ q cp, V g = .slice (some ⟨q, 0, none⟩) l cp ∧ VRow w q l (fun p => ws.getD p ByteArray.empty) := by
  have hr := hG.row g
  rw [he] at hr
  have hm : (ws.map tl).map encStr = ws.map Value.string := by
    rw [List.map_map]
    refine List.map_congr_left fun x _ => ?_
    rfl
  rw [hm, List.length_map, hl] at hr
  obtain ⟨q, cp, hv, _⟩ := hr.form h0
  rw [hv] at hr
  exact ⟨q, cp, hv, VRow.of_owns hr hl⟩

end Go.Proofs.Qxb6603859a
