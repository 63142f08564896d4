/- impl.Convert over one piece that was made of a string. -/
import Derived.Test.YtdljobmhnnegiaaDoorEvUseZ
namespace Go.Proofs.YtdljobmhnnegiaaDoor
open Go.RowKit

theorem pc_one (w : World) (s : ByteArray) (cap : Nat) (hc : s.size ≤ cap) (fr fr2 : Nat × Nat) :
    PC ((w.alloc (.cells (bytesRow s cap) 5 fr)).alloc (.cells #[.slice (some ⟨w.heap.size, 0, none⟩) s.size cap] 23 fr2)) (.slice (some ⟨w.heap.size + 1, 0, none⟩) 1 1) [s.data.toList] := by
  refine ⟨_, 1, rfl, Nat.le_refl _, fun i hi => ?_⟩
  have hi0 : i = 0 := by simp at hi; omega
  subst hi0
  have hl : s.data.toList.length = s.size := by simp
  refine ⟨w.heap.size + 1, 0, w.heap.size, 0, cap, rfl, ?_, by show s.data.toList.length ≤ cap; omega, ?_⟩
  · have := heap_alloc_new (w.alloc (.cells (bytesRow s cap) 5 fr)) (.cells #[.slice (some ⟨w.heap.size, 0, none⟩) s.size cap] 23 fr2)
    rw [size_alloc] at this
    simp only [World.cell?, this]
    show some _ = some (Value.slice _ s.data.toList.length _)
    rw [hl]
    rfl
  · have h0 : ((w.alloc (.cells (bytesRow s cap) 5 fr)).alloc (.cells #[.slice (some ⟨w.heap.size, 0, none⟩) s.size cap] 23 fr2)).heap[w.heap.size]? = some (.cells (bytesRow s cap) 5 fr) := by
      rw [Below.heap_alloc _ _ _ (by rw [size_alloc]; omega)]; exact heap_alloc_new _ _
    exact Rd.of_block h0 (bytesRow_take s cap)

theorem one_call {W w : World} (hG : G5 W) (h1 : Below W.heap.size W w) (s : ByteArray) (hs : s.size ≤ 500000) (cap : Nat) (hc : s.size ≤ cap) (fr fr2 : Nat × Nat) (exit : Int) (f : List UInt8) (close : Bool) :
    Calls Tryd.prog 23 #[.slice (some ⟨w.heap.size + 1, 0, none⟩) 1 1, .string ⟨#[112]⟩, .int .i64 exit, .string (S f), .bool close] ((w.alloc (.cells (bytesRow s cap) 5 fr)).alloc (.cells #[.slice (some ⟨w.heap.size, 0, none⟩) s.size cap] 23 fr2))
      fun e w' => ∃ evs v', e = .returned v' ∧ evs = convF [s.data.toList] exit f close ∧ EvsAt w' [112] evs v' ∧ Below W.heap.size W w' := by
  have hb : Below W.heap.size W ((w.alloc (.cells (bytesRow s cap) 5 fr)).alloc (.cells #[.slice (some ⟨w.heap.size, 0, none⟩) s.size cap] 23 fr2)) := (h1.alloc h1.size _).alloc (by rw [size_alloc]; have := h1.size; omega) _
  refine (convert_any (hG.below hb) (pc_one w s cap hc fr fr2) [112] f exit close (by simp; omega) (by simp)).mono ?_
  intro e w' hp
  obtain ⟨v', rfl, hb2, hev⟩ := hp.evs
  exact ⟨_, v', rfl, rfl, hev, hb.trans (hb2.mono hb.size)⟩

/-- The same, behind a draw. -/
theorem one_callD {W w : World} (hG : G5 W) (h1 : Below W.heap.size W w) (s : ByteArray) (hs : s.size ≤ 500000) (cap : Nat) (hc : s.size ≤ cap) (fr fr2 : Nat × Nat) (exit : Int) (f : List UInt8) (close : Bool) :
    Calls Tryd.prog 23 #[.slice (some ⟨w.heap.size + 1, 0, none⟩) 1 1, .string ⟨#[112]⟩, .int .i64 exit, .string (S f), .bool close] ((w.alloc (.cells (bytesRow s cap) 5 fr)).alloc (.cells #[.slice (some ⟨w.heap.size, 0, none⟩) s.size cap] 23 fr2)).drew
      fun e w' => ∃ evs v', e = .returned v' ∧ evs = convF [s.data.toList] exit f close ∧ EvsAt w' [112] evs v' ∧ Below W.heap.size W w' := by
  have hb : Below W.heap.size W ((w.alloc (.cells (bytesRow s cap) 5 fr)).alloc (.cells #[.slice (some ⟨w.heap.size, 0, none⟩) s.size cap] 23 fr2)) := (h1.alloc h1.size _).alloc (by rw [size_alloc]; have := h1.size; omega) _
  have hd := hb.drew
  have hpc : PC ((w.alloc (.cells (bytesRow s cap) 5 fr)).alloc (.cells #[.slice (some ⟨w.heap.size, 0, none⟩) s.size cap] 23 fr2)).drew (.slice (some ⟨w.heap.size + 1, 0, none⟩) 1 1) [s.data.toList] := pc_one w s cap hc fr fr2
  refine (convert_any (hG.below hd) hpc [112] f exit close (by simp; omega) (by simp)).mono ?_
  intro e w' hp
  obtain ⟨v', rfl, hb2, hev⟩ := hp.evs
  exact ⟨_, v', rfl, rfl, hev, hd.trans (hb2.mono hd.size)⟩

end Go.Proofs.YtdljobmhnnegiaaDoor
