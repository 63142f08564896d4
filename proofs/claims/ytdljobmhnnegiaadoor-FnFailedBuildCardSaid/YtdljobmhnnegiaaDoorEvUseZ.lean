/- Events in memory as the laws look at them: how many, and the nine cells of each. -/
import Derived.Test.YtdljobmhnnegiaaDoorZ3
import Derived.Test.YtdljobmhnnegiaaDoorPieces
namespace Go.Proofs.YtdljobmhnnegiaaDoor
open Go.RowKit

theorem EvsAt.few {w : World} {pkg : List UInt8} {evs : List Ev} {v : Value} (h : EvsAt w pkg evs v) : evs.length ≤ maxLen := by
  obtain ⟨xs, kp, h1, _, _⟩ := h
  rcases h1.2 with ⟨_, h3⟩ | ⟨g, cap, cur, _, _, _, h3, h4, _⟩
  · rw [h3]; exact Nat.zero_le _
  · exact Nat.le_trans h3 h4
/-- The cells of an event. -/
structure CellsE (w : World) (g i : Nat) (pkg : List UInt8) (e : Ev) (pv : Option Addr) (nv cv : Nat) : Prop where
  c0 : w.cell? ⟨g, i * 9, none⟩ = some (.string (S e.action))
  c1 : w.cell? ⟨g, i * 9 + 1, none⟩ = some (.string (S pkg))
  c2 : w.cell? ⟨g, i * 9 + 2, none⟩ = some (.string (S e.test))
  c3 : w.cell? ⟨g, i * 9 + 3, none⟩ = some (.slice pv nv cv)
  c4 : w.cell? ⟨g, i * 9 + 4, none⟩ = some (.string (S e.otype))
  c5 : w.cell? ⟨g, i * 9 + 5, none⟩ = some (.string (S e.fb))
  c6 : w.cell? ⟨g, i * 9 + 6, none⟩ = some (.string (S e.key))
  c7 : w.cell? ⟨g, i * 9 + 7, none⟩ = some (.string (S e.value))
  c8 : w.cell? ⟨g, i * 9 + 8, none⟩ = some (.string (S e.path))
  out : (pv = none ∧ nv = 0 ∧ cv = 0 ∧ e.output = []) ∨ ∃ g', pv = some ⟨g', 0, none⟩ ∧ nv = e.output.length ∧ nv ≤ cv ∧ (0 < nv → Rd w g' 0 e.output)
theorem EvsAt.at {w : World} {pkg : List UInt8} {evs : List Ev} {g c : Nat} {n : Nat} (h : EvsAt w pkg evs (.slice (some ⟨g, 0, none⟩) n c)) (hn : n = evs.length) (i : Nat) (hi : i < n) :
    ∃ e pv nv cv, Hid (evs[i]? = some e) ∧ CellsE w g i pkg e pv nv cv := by
  subst hn
  obtain ⟨ov, hcell, hov⟩ := h.cell i hi
  obtain ⟨pv, nv, cv, rfl, ho⟩ : ∃ pv nv cv, ov = .slice pv nv cv ∧ ((pv = none ∧ nv = 0 ∧ cv = 0 ∧ evs[i].output = []) ∨ ∃ g', pv = some ⟨g', 0, none⟩ ∧ nv = evs[i].output.length ∧ nv ≤ cv ∧ (0 < nv → Rd w g' 0 evs[i].output)) := by
    rcases hov with ⟨rfl, h0⟩ | ⟨g', c', rfl, h1, h2⟩
    · exact ⟨none, 0, 0, rfl, .inl ⟨rfl, rfl, rfl, h0⟩⟩
    · exact ⟨_, _, _, rfl, .inr ⟨g', rfl, rfl, h1, fun _ => h2⟩⟩
  have hc : ∀ j, j < 9 → w.cell? ⟨g, i * 9 + j, none⟩ = (evCells evs[i] pkg (.slice pv nv cv))[j]? := fun j hj => by rw [← hcell j hj, Nat.mul_comm]
  exact ⟨evs[i], pv, nv, cv, List.getElem?_eq_getElem hi, hc 0 (by omega), hc 1 (by omega), hc 2 (by omega), hc 3 (by omega), hc 4 (by omega), hc 5 (by omega), hc 6 (by omega), hc 7 (by omega), hc 8 (by omega), ho⟩
/-- An output as a string. -/
theorem CellsE.str {w : World} {g i : Nat} {pkg : List UInt8} {e : Ev} {pv : Option Addr} {nv cv : Nat} (h : CellsE w g i pkg e pv nv cv) {w' : World} (hb : Below w.heap.size w w') : (convert 23 9 (.slice pv nv cv)).run Tryd.prog w' = .ok (.string (S e.output)) w' := by
  rcases h.out with ⟨rfl, rfl, rfl, h0⟩ | ⟨g', rfl, h1, h2, h3⟩
  · rw [h0]
    exact run_convert_bytes_nil (P := Tryd.prog) w' 23 5 Tryd.underlying23 Tryd.underlying5 0 0 9 Tryd.underlying9
  · refine conv_str ?_ nv cv h1
    by_cases h0 : 0 < nv
    · exact (h3 h0).below hb ((h3 h0).lt (by omega))
    · rw [List.eq_nil_of_length_eq_zero (l := e.output) (by omega)]; exact Rd.nil _ _ _
theorem CellsE.below {w w' : World} {g i : Nat} {pkg : List UInt8} {e : Ev} {pv : Option Addr} {nv cv : Nat} (h : CellsE w g i pkg e pv nv cv) (hb : Below w.heap.size w w') : CellsE w' g i pkg e pv nv cv :=
  ⟨cellB hb h.c0, cellB hb h.c1, cellB hb h.c2, cellB hb h.c3, cellB hb h.c4, cellB hb h.c5, cellB hb h.c6, cellB hb h.c7, cellB hb h.c8, by
    rcases h.out with h1 | ⟨g', h1, h2, h3, h4⟩
    · exact .inl h1
    · exact .inr ⟨g', h1, h2, h3, fun h0 => (h4 h0).below hb ((h4 h0).lt (by omega))⟩⟩

end Go.Proofs.YtdljobmhnnegiaaDoor
