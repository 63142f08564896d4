/- What an event that is gathered does to the converter's world. -/
import Derived.Test.YtdljobmhnnegiaaDoorCore
import Derived.Maps.AppendAt
import Derived.Deep.AppendLies
namespace Go.Proofs.YtdljobmhnnegiaaDoor
open Go.RowKit

section
variable {cf : Cf} {xm : List Nat} {tp : List (Nat × Obj)} {s : CS} {w w' W : World} {ρ : Nat → Nat} {rv : Value} {gs : List Nat} {ev : Value} {xs : List Value} {kp : List (Nat × Obj)}

theorem Rows.ev_lt (r : Rows cf xm tp s w ρ rv gs ev xs kp) : ∀ k, ev.ownBlock = some k → k < w.heap.size := fun k hk => (r.lim k (by rw [r.r3 k hk]; omega)).2

/-- An event was appended, and the variable written. -/
theorem Core.append_ev (h : Core cf xm tp s w) (r : Rows cf xm tp s w ρ rv gs ev xs kp) {v' : Value} {e : Ev} {ov : Value} {new : List (Nat × Obj)} (hb : Below w.heap.size w W)
    (hnew : ∀ p ∈ new, w.heap.size ≤ p.1 ∧ W.heap[p.1]? = some p.2) (ho : OutR new e.output ov)
    (hown : w'.ownsRow 0 41 9 v' (s.evs.length + 1) (xs ++ evCells e cf.pkg ov)) (hg : W.grownBy w' ev.ownBlock) (hat : v'.ownBlock = ev.ownBlock ∨ v'.ownBlock = some W.heap.size) :
    Core cf xm tp { s with evs := s.evs ++ [e] } (w'.setCell ⟨cf.O, 0, none⟩ v') ∧ Same615 cf.c w (w'.setCell ⟨cf.O, 0, none⟩ v') := by
  have hsz : w.heap.size ≤ W.heap.size := hb.size
  have hsz2 : W.heap.size ≤ w'.heap.size := hg.size
  have hz3 : (w'.setCell ⟨cf.O, 0, none⟩ v').heap.size = w'.heap.size := by simp [World.setCell]
  have hO : ρ cf.O = 1 := r.r1
  -- a block of w with a part, not the events' row, not the variable
  have hk : ∀ k, ρ k < 8 → ρ k ≠ 3 → ρ k ≠ 1 → (w'.setCell ⟨cf.O, 0, none⟩ v').heap[k]? = w.heap[k]? := fun k h1 h3 h2 => by
    have hlt := (r.lim k h1).2
    rw [Below.heap_setCell _ _ _ _ (fun e => h2 (by rw [show k = cf.O from e]; exact hO)), hg.block k (by omega) (fun e => h3 (r.r3 k e.symm)), hb.block k hlt]
  have hkn : ∀ k n, ρ k = n → n < 8 → n ≠ 3 → n ≠ 1 → (w'.setCell ⟨cf.O, 0, none⟩ v').heap[k]? = w.heap[k]? := fun k n e h1 h2 h3 => hk k (by omega) (by omega) (by omega)
  have hc := hkn cf.c 0 r.r0 (by omega) (by omega) (by omega)
  have hOblk : W.heap[cf.O]? = some (.cells #[ev] 38 (0, 0)) := (hb.block cf.O (r.lim _ (by omega)).2).trans r.ocell
  have hOblk' : w'.heap[cf.O]? = some (.cells #[ev] 38 (0, 0)) := (hg.block cf.O (lt_of_block hOblk) (fun e => by have := r.r3 _ e.symm; omega)).trans hOblk
  -- the new parts
  have hn1 : ∀ p ∈ new, p.1 < W.heap.size := fun p hp => lt_of_block (hnew p hp).2
  have hρn : ∀ k, ρ k < 8 → k ∉ new.map (·.1) ∧ k ≠ W.heap.size := fun k hk => by
    have := (r.lim k hk).2
    refine ⟨fun hm => ?_, by omega⟩
    obtain ⟨p, hp, rfl⟩ := List.mem_map.1 hm
    have := (hnew p hp).1
    omega
  refine ⟨⟨?_, h.g0, fun j v hv => ?_, fun j => ?_, (fun k => if k ∈ new.map (·.1) then 7 else if k = W.heap.size then (if v'.ownBlock = some W.heap.size then 3 else 8) else ρ k), rv, gs, v', xs ++ evCells e cf.pkg ov, new ++ kp, ?_⟩, Same615.block hc⟩
  · have hbel : Below cf.w0.heap.size cf.w0 W := h.bel.trans (hb.mono h.bel.size)
    refine (hbel.grown hg (Nat.le_trans h.bel.size hsz) (fun k hk => (r.lim k (by rw [r.r3 k hk]; omega)).1)).setCell (show cf.w0.heap.size ≤ cf.O from (r.lim cf.O (by omega)).1) v'
  · rw [World.cell?_of_block (w := w) hc]
    refine h.cells j v ?_
    rw [← hv]; rfl
  · rw [World.frozen?_of_block (w := w) hc]; exact h.fr j
  · have hρ : ∀ k n, ρ k = n → n < 8 → (if k ∈ new.map (·.1) then 7 else if k = W.heap.size then (if v'.ownBlock = some W.heap.size then 3 else 8) else ρ k) = n := fun k n e hn => by
      have := hρn k (by omega)
      rw [if_neg this.1, if_neg this.2]; exact e
    refine { r with rcell := (World.cell?_of_block (w := w) hc).trans r.rcell, rrow := ownsRow_same r.rrow fun k hk2 => hkn k 2 (r.r2 k hk2) (by omega) (by omega) (by omega), rblk := fun q hq => ?_, ocell := ?_, orow := ?_, oev := ?_, tpb := fun p hp => (hkn p.1 6 (r.r6 p hp) (by omega) (by omega) (by omega)).trans (r.tpb p hp), kpb := fun p hp => ?_, lim := fun k hk => ?_, r0 := hρ _ _ r.r0 (by omega), r1 := hρ _ _ r.r1 (by omega), r2 := fun k hk => hρ _ _ (r.r2 k hk) (by omega), r3 := fun k hk => ?_, r4 := fun k hk => hρ _ _ (r.r4 k hk) (by omega), r5 := fun k hk => hρ _ _ (r.r5 k hk) (by omega), r6 := fun k hk => hρ _ _ (r.r6 k hk) (by omega), r7 := fun p hp => ?_ }
    · have hq1 : q.1 ∈ gs := (List.of_mem_zip hq).1
      exact (hkn q.1 4 (r.r4 _ hq1) (by omega) (by omega) (by omega)).trans (r.rblk q hq)
    · have := heap_setCell_at (o := 0) hOblk' v'
      rw [this]; rfl
    · have e1 : (s.evs ++ [e]).length = s.evs.length + 1 := by simp
      show World.ownsRow _ 0 41 9 v' (s.evs ++ [e]).length _
      rw [e1]
      refine ownsRow_same hown fun k hk2 => Below.heap_setCell _ _ _ _ (fun e => ?_)
      rcases hat with hat | hat
      · rw [hat] at hk2; have := r.r3 k hk2; rw [show k = cf.O from e] at this; omega
      · rw [hat] at hk2; cases hk2
        have : cf.O < W.heap.size := lt_of_block hOblk
        have e' : W.heap.size = cf.O := e
        omega
    · exact EvRow.snoc (ho.mono fun p hp => List.mem_append_left _ hp) (r.oev.mono fun p hp => List.mem_append_right _ hp)
    · rcases List.mem_append.1 hp with hp | hp
      · have h1 := hnew p hp
        have h2 := hn1 p hp
        rw [Below.heap_setCell _ _ _ _ (fun e => by have := (r.lim cf.O (by omega)).2; have e' : p.1 = cf.O := e; omega), hg.block p.1 h2 (fun e => by have := r.ev_lt p.1 e.symm; omega)]
        exact h1.2
      · exact (hkn p.1 7 (r.r7 p hp) (by omega) (by omega) (by omega)).trans (r.kpb p hp)
    · rw [hz3]
      by_cases e1 : k ∈ new.map (·.1)
      · obtain ⟨p, hp, rfl⟩ := List.mem_map.1 e1
        have := (hnew p hp).1
        have := hn1 p hp
        have := h.bel.size
        omega
      · rw [if_neg e1] at hk
        by_cases e2 : k = W.heap.size
        · rw [if_pos e2] at hk
          by_cases e3 : v'.ownBlock = some W.heap.size
          · have := (hown.lt k (by rw [e2]; exact e3)).2
            have := h.bel.size
            omega
          · rw [if_neg e3] at hk; omega
        · rw [if_neg e2] at hk
          have := r.lim k hk
          omega
    · rcases hat with hat | hat
      · rw [hat] at hk; exact hρ _ _ (r.r3 k hk) (by omega)
      · rw [hat] at hk; cases hk
        rw [if_neg (fun hm => ?_), if_pos rfl, if_pos hat]
        obtain ⟨p, hp, e⟩ := List.mem_map.1 hm
        have := hn1 p hp
        omega
    · rcases List.mem_append.1 hp with hp | hp
      · rw [if_pos (List.mem_map.2 ⟨p, hp, rfl⟩)]
      · exact hρ _ _ (r.r7 p hp) (by omega)
end

end Go.Proofs.YtdljobmhnnegiaaDoor
