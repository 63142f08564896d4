/- How the laws' arguments that are slices read. -/
import Derived.Test.YtdljobmhnnegiaaDoorPieces
namespace Go.Proofs.YtdljobmhnnegiaaDoor
open Go.RowKit

theorem ic_of_ints {w : World} {x : Addr} {len cap : Nat} {zs : List Int} (hl : len ≤ cap) (hz : zs.length = cap) (hcell : ∀ i, i < zs.length → w.cell? (x.add i) = some (.int .i64 (zs.getD i 0))) : IC w (.slice (some x) len cap) (zs.take len) := by
  have e : (zs.take len).length = len := by rw [List.length_take]; omega
  refine ⟨some x, cap, by rw [e], by rw [e]; exact hl, fun i hi => ?_⟩
  rw [e] at hi
  have h := hcell i (by omega)
  have h0 := hcell 0 (by omega)
  obtain ⟨b, off, r⟩ := x
  cases r with
  | some r => exact absurd h0 (by simp [Addr.add, World.cell?]; split <;> simp)
  | none =>
    refine ⟨b, off, rfl, ?_⟩
    have e2 : (⟨b, off, none⟩ : Addr).add i = ⟨b, off + i, none⟩ := by unfold Addr.add; split <;> simp_all
    rw [e2] at h
    rw [h]
    simp [List.getD_eq_getElem?_getD, List.getElem?_eq_getElem (show i < zs.length by omega)]

end Go.Proofs.YtdljobmhnnegiaaDoor
