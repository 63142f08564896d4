/- What writeOutputEvent does to the output buffer and to the converter's world. -/
import Derived.Test.YtdljobmhnnegiaaDoorEvent
import Derived.Test.YtdljobmhnnegiaaDoorWriteB
import Derived.Laws.IdiomCopy
namespace Go.Proofs.YtdljobmhnnegiaaDoor
open Go.RowKit

theorem heap_setCells : ∀ (vs : List Value) (w : World) (b o : Nat) (cs : Array Value) (t : TypeId) (fr : Nat × Nat), w.heap[b]? = some (.cells cs t fr) →
    ∃ cs', (w.setCells b o vs).heap[b]? = some (.cells cs' t fr) ∧ cs'.size = cs.size ∧ (∀ j, j < o ∨ o + vs.length ≤ j → cs'[j]? = cs[j]?) ∧ (∀ j, j < vs.length → o + j < cs.size → cs'[o + j]? = vs[j]?)
  | [], w, b, o, cs, t, fr, h => ⟨cs, h, rfl, fun _ _ => rfl, fun j hj => by simp at hj⟩
  | v :: vs, w, b, o, cs, t, fr, h => by
    obtain ⟨cs', h1, h2, h3, h4⟩ := heap_setCells vs (w.setCell ⟨b, o, none⟩ v) b (o + 1) _ t fr (heap_setCell_at h v)
    refine ⟨cs', h1, by rw [h2]; simp, fun j hj => ?_, fun j hj hlt => ?_⟩
    · rw [h3 j (by simp at hj; omega), Array.getElem?_setIfInBounds, if_neg (by simp at hj; omega)]
    · cases j with
      | zero =>
        rw [Nat.add_zero, h3 o (by omega), Array.getElem?_setIfInBounds, if_pos rfl, if_pos (by omega)]; rfl
      | succ j =>
        have := h4 j (by simpa using hj) (by simp; omega)
        rw [show o + (j + 1) = o + 1 + j by omega, this]; rfl
theorem setCells_other : ∀ (vs : List Value) (w : World) (b o k : Nat), k ≠ b → (w.setCells b o vs).heap[k]? = w.heap[k]?
  | [], _, _, _, _, _ => rfl
  | _ :: vs, _, b, o, k, h => (setCells_other vs _ b (o + 1) k h).trans (Below.heap_setCell _ _ _ _ h)
theorem setCells_size : ∀ (vs : List Value) (w : World) (b o : Nat), (w.setCells b o vs).heap.size = w.heap.size ∧ (w.setCells b o vs).os = w.os ∧ (w.setCells b o vs).tape = w.tape ∧ (w.setCells b o vs).output = w.output
  | [], _, _, _ => ⟨rfl, rfl, rfl, rfl⟩
  | v :: vs, w, b, o => by
    have h := setCells_size vs (w.setCell ⟨b, o, none⟩ v) b (o + 1)
    exact ⟨h.1.trans (by simp [World.setCell]), h.2.1, h.2.2.1, h.2.2.2⟩
theorem Off.cells {bs : List Nat} {b : Nat} (hb : b ∈ bs) (o : Nat) (vs : List Value) (w : World) : Off bs w (w.setCells b o vs) :=
  have h := setCells_size vs w b o
  ⟨h.2.1, h.2.2.1, h.2.2.2, by rw [h.1]; exact Nat.le_refl _, fun k _ hk => setCells_other vs w b o k (fun e => hk (by rw [e]; exact hb))⟩

/-- The output buffer, of which the k bytes from i0 on were handed on; l lies in them from o on. -/
def WB (B i0 k : Nat) (raw : Array Value) (l : List UInt8) (o : Nat) (w : World) : Prop :=
  ∃ raw', w.heap[B]? = some (.cells raw' 5 (0, 0)) ∧ raw'.size = raw.size ∧ (∀ j, j < i0 ∨ i0 + k ≤ j → raw'[j]? = raw[j]?) ∧ (∀ j, j < l.length → raw'[o + j]? = some (.int .u8 (l.getD j 0).toNat)) ∧ (0 < l.length → i0 ≤ o ∧ o + l.length ≤ i0 + k)

section
variable {B i0 k : Nat} {raw : Array Value} {l : List UInt8} {o : Nat} {w w' : World}
theorem WB.same (h : WB B i0 k raw l o w) (hb : w'.heap[B]? = w.heap[B]?) : WB B i0 k raw l o w' := by
  obtain ⟨raw', h1, h2⟩ := h
  exact ⟨raw', hb.trans h1, h2⟩
theorem WB.rd (h : WB B i0 k raw l o w) : Rd w B o l := by
  obtain ⟨raw', h1, _, _, h4, _⟩ := h
  intro j hj
  simp only [World.cell?, h1]
  exact h4 j hj
theorem WB.blk (h : WB B i0 k raw l o w) : ∃ raw', w.heap[B]? = some (.cells raw' 5 (0, 0)) := by
  obtain ⟨raw', h1, _⟩ := h
  exact ⟨raw', h1⟩
theorem WB.cell (h : WB B i0 k raw l o w) {j : Nat} (hj : j < l.length) : w.cell? ⟨B, o + j, none⟩ = some (.int .u8 (l.getD j 0).toNat) := h.rd j hj
theorem WB.fr (h : WB B i0 k raw l o w) (j : Nat) : w.frozen? ⟨B, j, none⟩ = false := by
  obtain ⟨raw', h1, _⟩ := h
  simp [World.frozen?, h1]
theorem WB.drop (h : WB B i0 k raw l o w) (m : Nat) : WB B i0 k raw (l.drop m) (o + m) w := by
  obtain ⟨raw', h1, h2, h3, h4, h5⟩ := h
  refine ⟨raw', h1, h2, h3, fun j hj => ?_, fun hl => ?_⟩
  · rw [List.length_drop] at hj
    rw [Nat.add_assoc, h4 (m + j) (by omega)]
    simp [List.getD_eq_getElem?_getD]
  · rw [List.length_drop] at hl ⊢
    have := h5 (by omega)
    omega
theorem WB.nil (h : WB B i0 k raw l o w) (o' : Nat) : WB B i0 k raw [] o' w := by
  obtain ⟨raw', h1, h2, h3, _, _⟩ := h
  exact ⟨raw', h1, h2, h3, fun j hj => by simp at hj, fun hl => by simp at hl⟩
/-- A byte is taken out. -/
theorem WB.del {acc r : List UInt8} {c : UInt8} (h : WB B i0 k raw (acc ++ c :: r) o w) (hsz : i0 + k ≤ raw.size) : WB B i0 k raw (acc ++ r) o (w.setCells B (o + acc.length) (vals r)) := by
  obtain ⟨raw', h1, h2, h3, h4, h5⟩ := h
  have h5' := h5 (by simp; omega)
  simp at h5'
  obtain ⟨cs', a1, a2, a3, a4⟩ := heap_setCells (vals r) w B (o + acc.length) _ _ _ h1
  rw [vals_length] at a3 a4
  refine ⟨cs', a1, a2.trans h2, fun j hj => ?_, fun j hj => ?_, fun _ => by simp; omega⟩
  · rw [a3 j (by omega)]; exact h3 j hj
  · rw [List.length_append] at hj
    by_cases hja : j < acc.length
    · rw [a3 (o + j) (by omega), h4 j (by simp; omega)]
      simp [List.getD_eq_getElem?_getD, List.getElem?_append_left hja]
    · have hj' : j - acc.length < r.length := by omega
      have := a4 (j - acc.length) hj' (by rw [h2]; omega)
      rw [show o + acc.length + (j - acc.length) = o + j by omega] at this
      rw [this]
      simp [vals, List.getElem?_map, List.getD_eq_getElem?_getD, List.getElem?_append_right (show acc.length ≤ j by omega), List.getElem?_eq_getElem hj']
end

/-- A block that a callee made is another's to write. -/
theorem Core.fresh {cf : Cf} {xm : List Nat} {tp : List (Nat × Obj)} {s : CS} {w w' : World} (h : Core cf xm tp s w) (hb : Below w.heap.size w w') {g : Nat} (h1 : w.heap.size ≤ g) (h2 : g < w'.heap.size) : Core cf (g :: xm) tp s w' := by
  obtain ⟨ρ, rv, gs, ev, xs, kp, r⟩ := h.rows
  have h' := h.below hb
  have hne : ∀ k, ρ k < 8 → k ≠ g := fun k hk => by have := (r.lim k hk).2; omega
  have hρ : ∀ k n, ρ k = n → n < 8 → (if k = g then 5 else ρ k) = n := fun k n e hn => by rw [if_neg (hne k (by omega))]; exact e
  have r' : Rows cf xm tp s w' ρ rv gs ev xs kp := r.same hb.size (fun k hk _ _ _ => hb.block k hk) (World.cell?_of_block (w := w) (hb.block _ h.lt0.2))
  refine ⟨h'.bel, h'.g0, h'.cells, h'.fr, fun k => if k = g then 5 else ρ k, rv, gs, ev, xs, kp, ?_⟩
  refine { r' with lim := fun k hk => ?_, r0 := hρ _ _ r.r0 (by omega), r1 := hρ _ _ r.r1 (by omega), r2 := fun k hk => hρ _ _ (r.r2 k hk) (by omega), r3 := fun k hk => hρ _ _ (r.r3 k hk) (by omega), r4 := fun k hk => hρ _ _ (r.r4 k hk) (by omega), r5 := fun x hx => ?_, r6 := fun k hk => hρ _ _ (r.r6 k hk) (by omega), r7 := fun k hk => hρ _ _ (r.r7 k hk) (by omega), ndx := ?_ }
  · by_cases e : k = g
    · rw [e]; exact ⟨Nat.le_trans h.bel.size h1, h2⟩
    · rw [if_neg e] at hk; exact r'.lim k hk
  · rcases List.mem_cons.1 hx with rfl | hx
    · rw [if_pos rfl]
    · exact hρ _ _ (r.r5 x hx) (by omega)
  · rw [List.nodup_cons]
    exact ⟨fun hm => by have := (r.lim _ (by rw [r.r5 _ hm]; omega)).2; omega, r.ndx⟩

theorem cloned_form {w w' : World} {l : List UInt8} {v : Value} (h : Cloned w l v w') : ∃ p n c, v = .slice p n c := by
  obtain ⟨g, cap, cs, rfl, _⟩ := h
  exact ⟨_, _, _, rfl⟩

def OutPost (cf : Cf) (xm : List Nat) (tp : List (Nat × Obj)) (s : CS) (B : Nat) (w : World) (en : Ending) (w' : World) : Prop :=
  en = .returned (.tuple #[]) ∧ Core cf (B :: xm) tp s w' ∧ Same615 cf.c w w' ∧ w'.heap[B]? = w.heap[B]?

/-- The call of writeEvent with a copy of bytes out of the buffer. -/
theorem out_call {cf : Cf} {B : Nat} {xm : List Nat} {tp : List (Nat × Obj)} {s : CS} {w w1 : World} (h : Core cf (B :: xm) tp s w) {l : List UInt8} {v : Value} (hc : Cloned w l v w1) (ty : List UInt8) (hn : s.evs.length ≤ 100000000) (hl : l.length ≤ 140737488351232) :
    Calls Tryd.prog 54 #[.pointer (some ⟨cf.c, 0, none⟩), .pointer (some ⟨w1.heap.size, 0, none⟩)]
      (w1.alloc (.cells #[.string ⟨#[111, 117, 116, 112, 117, 116]⟩, .string ⟨#[]⟩, .string ⟨#[]⟩, v, .string (S ty), .string ⟨#[]⟩, .string ⟨#[]⟩, .string ⟨#[]⟩, .string ⟨#[]⟩] 71)) (OutPost cf xm tp (emit s (Ev.out l ty)) B w) := by
  obtain ⟨g, cap, cs, rfl, h1, h2, h3, h4, hb⟩ := hc
  have hBlt := (h.xlt (by simp : B ∈ B :: xm)).2.1
  have hglt := lt_of_block h3
  obtain ⟨oB, hoB⟩ : ∃ o, w.heap[B]? = some o := ⟨_, Array.getElem?_eq_getElem hBlt⟩
  have hB1 : w1.heap[B]? = some oB := (hb.block B hBlt).trans hoB
  have hC1 : Core cf (B :: xm) ((g, .cells cs 5 (0, 0)) :: tp) s w1 := (h.fresh hb h2 hglt).take h3
  have hC2 : Core cf xm ((B, oB) :: (g, .cells cs 5 (0, 0)) :: tp) s w1 := hC1.take hB1
  have hC3 := hC2.new (.cells #[.string ⟨#[111, 117, 116, 112, 117, 116]⟩, .string ⟨#[]⟩, .string ⟨#[]⟩, .slice (some ⟨g, 0, none⟩) l.length cap, .string (S ty), .string ⟨#[]⟩, .string ⟨#[]⟩, .string ⟨#[]⟩, .string ⟨#[]⟩] 71)
  refine (event_any (e := Ev.out l ty) hC3 (heap_alloc_new _ _) (.inr ⟨g, cap, cs, rfl, h1, by simp, h4⟩) hn hl).mono ?_
  rintro en w2 ⟨rfl, hC, hS⟩
  have hg := hC.give
  refine ⟨rfl, ?_, ?_, ?_⟩
  · -- the copy's block is let go
    have hC' := hg.1
    have : Core cf (B :: xm) tp (emit s (Ev.out l ty)) w2 := by
      obtain ⟨ρ, rv, gs, ev, xs, kp, r⟩ := hC'.rows
      exact ⟨hC'.bel, hC'.g0, hC'.cells, hC'.fr, ρ, rv, gs, ev, xs, kp, { r with tpb := fun p hp => r.tpb p (List.mem_cons_of_mem _ hp), r6 := fun p hp => r.r6 p (List.mem_cons_of_mem _ hp), ndt := (List.nodup_cons.1 r.ndt).2 }⟩
    exact this
  · have hcl := h.lt0.2
    have e1 : Same615 cf.c w w1 := Same615.block (hb.block _ hcl)
    have e2 : Same615 cf.c w1 (w1.alloc (.cells #[.string ⟨#[111, 117, 116, 112, 117, 116]⟩, .string ⟨#[]⟩, .string ⟨#[]⟩, .slice (some ⟨g, 0, none⟩) l.length cap, .string (S ty), .string ⟨#[]⟩, .string ⟨#[]⟩, .string ⟨#[]⟩, .string ⟨#[]⟩] 71)) := Same615.block (Below.heap_alloc _ _ _ (Nat.lt_of_lt_of_le hcl hb.size))
    exact (e1.trans e2).trans hS
  · rw [hg.2, hoB]

end Go.Proofs.YtdljobmhnnegiaaDoor
