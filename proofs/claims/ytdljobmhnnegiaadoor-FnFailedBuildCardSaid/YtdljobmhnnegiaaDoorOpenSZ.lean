/- How the laws' arguments that are slices of strings read. -/
import Derived.Test.YtdljobmhnnegiaaDoorZ5
import Derived.SliceStrings
import Derived.Deep.Slices
namespace Go.Proofs.YtdljobmhnnegiaaDoor
open Go.RowKit Go.ChangeShapes Go.ChangeMaps Go.Deep

theorem sc_of_strs {w : World} {x : Addr} {len cap : Nat} {ss : List ByteArray} (hl : len ≤ cap) (hz : len ≤ ss.length) (hcell : ∀ i, i < ss.length → w.cell? (x.add i) = some (.string (ss.getD i ByteArray.empty))) : SC w (.slice (some x) len cap) ((ss.take len).map fun s => s.data.toList) := by
  have e : ((ss.take len).map fun s => s.data.toList).length = len := by rw [List.length_map, List.length_take]; omega
  refine ⟨some x, cap, by rw [e], by rw [e]; exact hl, fun i hi => ?_⟩
  rw [e] at hi
  have h := hcell i (by omega)
  have h0 := hcell 0 (by omega)
  obtain ⟨b, off, r⟩ := x
  cases r with
  | some r => exact absurd h0 (by simp [Addr.add, World.cell?]; split <;> simp)
  | none =>
    refine ⟨b, off, rfl, ?_⟩
    have e2 : (⟨b, off, none⟩ : Addr).add i = ⟨b, off + i, none⟩ := by unfold Addr.add; split <;> simp_all
    rw [e2] at h
    rw [h]
    simp [List.getD_eq_getElem?_getD, List.getElem?_eq_getElem (show i < ss.length by omega)]

theorem sc_of_trod {H : Type} {enc : TypeId × Value → H} {w : World} {fuel : Nat} {v : Value} {x : DataW H × List MemPlace} (h : DataW.trod enc Tryd.prog w 0 (fun _ => true) true fuel 34 [v] = some x) : ∃ ss, SC w v ss := by
  rcases open_strings Tryd.underlying34 Tryd.underlying9 (by kernel_rfl) h with ⟨hcs, _⟩ | ⟨a, len, cap, ss, hcs, _, hl, hm, hz, _, hcell, _⟩
  · obtain rfl : v = .slice none 0 0 := by simpa using hcs
    exact ⟨[], SC.nil w⟩
  · obtain rfl : v = .slice (some a) len cap := by simpa using hcs
    simp only [if_true] at hz
    exact ⟨_, sc_of_strs hl (by omega) hcell⟩

theorem ssc_of_trod {H : Type} {enc : TypeId × Value → H} {w : World} {fuel : Nat} {v : Value} {x : DataW H × List MemPlace} (h : DataW.trod enc Tryd.prog w 0 (fun _ => true) true fuel 59 [v] = some x) : ∃ lss, SSC w v lss := by
  rcases open_slice1 Tryd.underlying59 (by kernel_rfl) h with ⟨hcs, _⟩ | ⟨a, len, cap, m, n, V, D, Pl, hcs, _, hl, hm, hz, _, hx⟩
  · obtain rfl : v = .slice none 0 0 := by simpa using hcs
    exact ⟨[], SSC.nil w⟩
  · obtain rfl : v = .slice (some a) len cap := by simpa using hcs
    simp only [if_true] at hz
    subst hz
    have hch : ∀ i, ∃ ss, i < m → SC w (V i) ss := fun i => by
      by_cases hi : i < m
      · obtain ⟨ss, hs⟩ := sc_of_trod (hx i hi).2
        exact ⟨ss, fun _ => hs⟩
      · exact ⟨[], fun h => absurd h hi⟩
    obtain ⟨f, hf⟩ := Classical.axiomOfChoice hch
    have e : ((List.range len).map f).length = len := by simp
    refine ⟨(List.range len).map f, some a, m, by rw [e], by rw [e]; exact hl, fun i hi => ?_⟩
    rw [e] at hi
    have hc := (hx i (by omega)).1
    have hc0 := (hx 0 (by omega)).1
    obtain ⟨b, off, r⟩ := a
    cases r with
    | some r => exact absurd hc0 (by simp [Addr.add, World.cell?]; split <;> simp)
    | none =>
      have e2 : (⟨b, off, none⟩ : Addr).add i = ⟨b, off + i, none⟩ := by unfold Addr.add; split <;> simp_all
      rw [e2] at hc
      refine ⟨b, off, V i, rfl, hc, ?_⟩
      have hs := hf i (by omega)
      simpa using hs

end Go.Proofs.YtdljobmhnnegiaaDoor
