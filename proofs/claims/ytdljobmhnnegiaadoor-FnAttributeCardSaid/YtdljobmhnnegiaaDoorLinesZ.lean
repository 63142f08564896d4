/- What the callbacks of ZZLines do to the world: each keeps a copy of what it is handed, and a mark. -/
import Derived.Test.YtdljobmhnnegiaaDoorLate
import Derived.Test.YtdljobmhnnegiaaDoorLb
namespace Go.Proofs.YtdljobmhnnegiaaDoor
open Go.RowKit

theorem Rd.same {w w' : World} {b off : Nat} {l : List UInt8} (h : Rd w b off l) (hb : w'.heap[b]? = w.heap[b]?) : Rd w' b off l := fun j hj => by
  rw [← h j hj]; exact World.cell?_of_block (w := w) hb
theorem ownsRow_same {w w' : World} {base : Nat} {e : TypeId} {size : Nat} {v : Value} {n : Nat} {xs : List Value} (h : w.ownsRow base e size v n xs) (hb : ∀ k, v.ownBlock = some k → w'.heap[k]? = w.heap[k]?) : w'.ownsRow base e size v n xs := by
  refine ⟨h.1, ?_⟩
  rcases h.2 with hn | ⟨g, cap, cur, rfl, h1, h2, h3⟩
  · exact .inl hn
  · exact .inr ⟨g, cap, cur, rfl, h1, by rw [hb g rfl]; exact h2, h3⟩
theorem Rd.of_owns {w : World} {base g cap : Nat} {l : List UInt8} (h : w.ownsRow base 5 1 (.slice (some ⟨g, 0, none⟩) l.length cap) l.length (YtdljobmhnnegiaaDoor.vals l)) : Rd w g 0 l := by
  rcases h.2 with ⟨hv, _⟩ | ⟨g', cap', cur, hv, _, hb, _, _, _, ht⟩
  · cases hv
  · cases hv
    exact Rd.of_block hb (by rw [Nat.mul_one] at ht; exact ht)
theorem owns_cap {w : World} {base : Nat} {e : TypeId} {size : Nat} {g n cap m : Nat} {xs : List Value} (h : w.ownsRow base e size (.slice (some ⟨g, 0, none⟩) n cap) m xs) : n ≤ cap ∧ n = m ∧ base ≤ g := by
  rcases h.2 with ⟨hv, _⟩ | ⟨g', cap', cur, hv, hb, _, hc, _⟩
  · cases hv
  · cases hv; exact ⟨hc, rfl, hb⟩

theorem LBS.same {c o B cap : Nat} {lv pv : Value} {n i : Nat} {rest : List UInt8} {mid esc : Bool} {w w' : World} (h : LBS c o B cap lv pv n i rest mid esc w) (hc : w'.heap[c]? = w.heap[c]?) (hB : w'.heap[B]? = w.heap[B]?) : LBS c o B cap lv pv n i rest mid esc w' := by
  obtain ⟨raw, hr, hs⟩ := h.buf
  have e : ∀ j, w'.cell? ⟨c, j, none⟩ = w.cell? ⟨c, j, none⟩ := fun j => World.cell?_of_block hc
  exact ⟨by rw [e]; exact h.c0, by rw [e]; exact h.c1, by rw [e]; exact h.c2, by rw [e]; exact h.c3, by rw [e]; exact h.c4, fun j => by rw [World.frozen?_of_block (w := w) (a := ⟨c, j, none⟩) hc]; exact h.fr j, ⟨raw, by rw [hB]; exact hr, hs⟩, h.rd.same hB, h.len, h.le, h.ne⟩
theorem LBS.skip {c o B cap : Nat} {lv pv : Value} {n i : Nat} {rest : List UInt8} {mid esc : Bool} {w : World} (h : LBS c o B cap lv pv n i rest mid esc w) (k : Nat) (hk : k ≤ rest.length) : LBS c o B cap lv pv n (i + k) (rest.drop k) mid esc w :=
  ⟨h.c0, h.c1, h.c2, h.c3, h.c4, h.fr, h.buf, h.rd.drop k, by rw [List.length_drop]; have := h.len; omega, h.le, h.ne⟩

/-- The world in the midst of a callback: which of its steps are done, and what they laid. -/
structure ZZ (w0 : World) (base : Nat) (vT : Value) (n : Nat) (xs : List Value) (l : List UInt8) (q : Bool) (s1 : Option Nat) (s3 : Option (Nat × Nat)) (s4 : Option Nat) (s5 : Option (Nat × Nat)) (s7 : Option Nat) (w : World) : Prop where
  os : w.os = w0.os
  tape : w.tape = w0.tape
  output : w.output = w0.output
  size : w0.heap.size ≤ w.heap.size
  block : ∀ k, k < w0.heap.size → (s5 = none ∨ vT.ownBlock ≠ some k) → w.heap[k]? = w0.heap[k]?
  f1 : ∀ g, s1 = some g → w0.heap.size ≤ g ∧ w.heap[g]? = some (.cells #[] 5 (0, 0))
  f3 : ∀ g c, s3 = some (g, c) → w0.heap.size ≤ g ∧ g < w.heap.size ∧ l.length ≤ c ∧ ∃ cs, w.heap[g]? = some (.cells cs 5 (0, 0)) ∧ cs.toList.take l.length = vals l
  f4 : ∀ b, s4 = some b → w0.heap.size ≤ b ∧ ∃ g c, s3 = some (g, c) ∧ w.heap[b]? = some (.cells #[.slice (some ⟨g, 0, none⟩) l.length c] 23 (0, 0))
  f5 : ∀ g' c', s5 = some (g', c') → ∃ g c, s3 = some (g, c) ∧ w.ownsRow base 23 1 (.slice (some ⟨g', 0, none⟩) (n + 1) c') (n + 1) (xs ++ [.slice (some ⟨g, 0, none⟩) l.length c]) ∧ (vT.ownBlock = some g' ∨ w0.heap.size ≤ g') ∧ g' ≠ g ∧ g' < w.heap.size
  f7 : ∀ g, s7 = some g → w0.heap.size ≤ g ∧ w.heap[g]? = some (.cells #[.bool q] 4 (0, 0))

section
variable {w0 : World} {base : Nat} {vT : Value} {n : Nat} {xs : List Value} {l : List UInt8} {q : Bool} {s1 s4 s7 : Option Nat} {s3 s5 : Option (Nat × Nat)} {w : World}

theorem ZZ.start (w0 : World) (base : Nat) (vT : Value) (n : Nat) (xs : List Value) (l : List UInt8) (q : Bool) : ZZ w0 base vT n xs l q none none none none none w0.drew :=
  ⟨rfl, rfl, rfl, Nat.le_refl _, fun _ _ _ => rfl, fun _ h => (by cases h), fun _ _ h => (by cases h), fun _ h => (by cases h), fun _ _ h => (by cases h), fun _ h => (by cases h)⟩

theorem lt_of_block {w : World} {k : Nat} {x : Obj} (h : w.heap[k]? = some x) : k < w.heap.size := by
  rcases Nat.lt_or_ge k w.heap.size with h' | h'
  · exact h'
  · rw [Array.getElem?_eq_none h'] at h; cases h

theorem ZZ.alloc' (h : ZZ w0 base vT n xs l q s1 s3 s4 s5 s7 w) (o : Obj) : ZZ w0 base vT n xs l q s1 s3 s4 s5 s7 (w.alloc o) := by
  have hb' : ∀ k, k < w.heap.size → (w.alloc o).heap[k]? = w.heap[k]? := fun k hk => Below.heap_alloc w o k hk
  have e4 : w.heap.size ≤ (w.alloc o).heap.size := by simp
  refine ⟨h.os, h.tape, h.output, Nat.le_trans h.size e4, fun k hk hn => (hb' k (Nat.lt_of_lt_of_le hk h.size)).trans (h.block k hk hn), fun g hg => ?_, fun g c hg => ?_, fun b hb1 => ?_, fun g' c' hg => ?_, fun g hg => ?_⟩
  · have := h.f1 g hg
    exact ⟨this.1, by rw [hb' g (lt_of_block this.2)]; exact this.2⟩
  · obtain ⟨a1, a2, a3, cs, a4, a5⟩ := h.f3 g c hg
    exact ⟨a1, Nat.lt_of_lt_of_le a2 e4, a3, cs, by rw [hb' g a2]; exact a4, a5⟩
  · obtain ⟨a1, g, c, a2, a3⟩ := h.f4 b hb1
    exact ⟨a1, g, c, a2, by rw [hb' b (lt_of_block a3)]; exact a3⟩
  · obtain ⟨g, c, a1, a2, a3, a4, a5⟩ := h.f5 g' c' hg
    exact ⟨g, c, a1, ownsRow_same a2 (fun k hk => by cases hk; exact hb' _ a5), a3, a4, Nat.lt_of_lt_of_le a5 e4⟩
  · have := h.f7 g hg
    exact ⟨this.1, by rw [hb' g (lt_of_block this.2)]; exact this.2⟩

theorem ZZ.step1 (h : ZZ w0 base vT n xs l q none s3 s4 s5 s7 w) : ZZ w0 base vT n xs l q (some w.heap.size) s3 s4 s5 s7 (w.alloc (.cells #[] 5 (0, 0))) := by
  have k := h.alloc' (.cells #[] 5 (0, 0))
  exact ⟨k.os, k.tape, k.output, k.size, k.block, fun g hg => by cases hg; exact ⟨h.size, heap_alloc_new _ _⟩, k.f3, k.f4, k.f5, k.f7⟩
theorem ZZ.step7 (h : ZZ w0 base vT n xs l q s1 s3 s4 s5 none w) : ZZ w0 base vT n xs l q s1 s3 s4 s5 (some w.heap.size) (w.alloc (.cells #[.bool q] 4 (0, 0))) := by
  have k := h.alloc' (.cells #[.bool q] 4 (0, 0))
  exact ⟨k.os, k.tape, k.output, k.size, k.block, k.f1, k.f3, k.f4, k.f5, fun g hg => by cases hg; exact ⟨h.size, heap_alloc_new _ _⟩⟩
theorem ZZ.step4 {g c : Nat} (h : ZZ w0 base vT n xs l q s1 (some (g, c)) none s5 s7 w) : ZZ w0 base vT n xs l q s1 (some (g, c)) (some w.heap.size) s5 s7 (w.alloc (.cells #[.slice (some ⟨g, 0, none⟩) l.length c] 23 (0, 0))) := by
  have k := h.alloc' (.cells #[.slice (some ⟨g, 0, none⟩) l.length c] 23 (0, 0))
  exact ⟨k.os, k.tape, k.output, k.size, k.block, k.f1, k.f3, fun b hb => by cases hb; exact ⟨h.size, g, c, rfl, heap_alloc_new _ _⟩, k.f5, k.f7⟩
/-- The bytes' copy. -/
theorem ZZ.step3 {b g c : Nat} {w' : World} (h : ZZ w0 base vT n xs l q (some b) none none none s7 w) (ho : w'.ownsRow w0.heap.size 5 1 (.slice (some ⟨g, 0, none⟩) l.length c) l.length (vals l)) (hg : w.grownBy w' (some b)) (hlt : g < w'.heap.size) :
    ZZ w0 base vT n xs l q none (some (g, c)) none none s7 w' := by
  have hb := h.f1 b rfl
  refine ⟨hg.os.trans h.os, hg.tape.trans h.tape, hg.output.trans h.output, Nat.le_trans h.size hg.size, fun k hk _ => (hg.block k (Nat.lt_of_lt_of_le hk h.size) (by intro he; cases he; omega)).trans (h.block k hk (.inl rfl)), fun _ h => (by cases h), fun g' c' hg' => ?_, fun _ h => (by cases h), fun _ _ h => (by cases h), fun g' hg' => ?_⟩
  · cases hg'
    rcases ho.2 with ⟨hv, _⟩ | ⟨g', cap', cur, hv, h0, hblk, hc, _, _, ht⟩
    · cases hv
    · cases hv
      exact ⟨h0, hlt, hc, cur, hblk, by rw [Nat.mul_one] at ht; exact ht⟩
  · have h7 := h.f7 g' hg'
    refine ⟨h7.1, ?_⟩
    rw [hg.block g' (lt_of_block h7.2) (by intro he; cases he; rw [hb.2] at h7; simp at h7)]
    exact h7.2
/-- The text's append. -/
theorem ZZ.step5 {b g c g' c' : Nat} {w' : World} (h : ZZ w0 base vT n xs l q none (some (g, c)) (some b) none s7 w) (hT : ∀ k, vT.ownBlock = some k → k < w0.heap.size)
    (ho : w'.ownsRow base 23 1 (.slice (some ⟨g', 0, none⟩) (n + 1) c') (n + 1) (xs ++ [.slice (some ⟨g, 0, none⟩) l.length c])) (hg : w.grownBy w' vT.ownBlock) (hat : vT.ownBlock = some g' ∨ g' = w.heap.size) (hlt : g' < w'.heap.size) :
    ZZ w0 base vT n xs l q none (some (g, c)) none (some (g', c')) s7 w' := by
  obtain ⟨a1, a2, a3, cs, a4, a5⟩ := h.f3 g c rfl
  have hne : ∀ k, w0.heap.size ≤ k → some k ≠ vT.ownBlock := fun k hk he => by have := hT k he.symm; omega
  have hsz := h.size
  refine ⟨hg.os.trans h.os, hg.tape.trans h.tape, hg.output.trans h.output, Nat.le_trans h.size hg.size, fun k hk hn => ?_, fun _ h => (by cases h), fun g1 c1 hg' => ?_, fun _ h => (by cases h), fun g1 c1 hg1 => ?_, fun g1 hg1 => ?_⟩
  · rcases hn with hn | hn
    · cases hn
    · exact (hg.block k (Nat.lt_of_lt_of_le hk h.size) (Ne.symm hn)).trans (h.block k hk (.inl rfl))
  · cases hg'
    exact ⟨a1, Nat.lt_of_lt_of_le a2 hg.size, a3, cs, by rw [hg.block g a2 (hne g a1)]; exact a4, a5⟩
  · cases hg1
    refine ⟨g, c, rfl, ho, ?_, ?_, hlt⟩
    · rcases hat with hat | hat
      · exact .inl hat
      · exact .inr (by omega)
    · rcases hat with hat | hat
      · have := hT g' hat; omega
      · omega
  · have h7 := h.f7 g1 hg1
    exact ⟨h7.1, by rw [hg.block g1 (lt_of_block h7.2) (hne g1 h7.1)]; exact h7.2⟩
end

/-- What the two variables of ZZLines hold: the texts and the marks so far. -/
structure ZB (base b4 b5 : Nat) (st : List (List UInt8 × Bool)) (vT vW : Value) (xs : List Value) (w : World) : Prop where
  T : w.heap[b4]? = some (.cells #[vT] 28 (0, 0))
  W : w.heap[b5]? = some (.cells #[vW] 66 (0, 0))
  oT : w.ownsRow base 23 1 vT st.length xs
  oW : w.ownsRow base 4 1 vW st.length (st.map fun p => Value.bool p.2)
  ne : ∀ g, vT.ownBlock = some g → vW.ownBlock ≠ some g
  el : ∀ i, (hi : i < st.length) → ∃ g cap, xs[i]? = some (.slice (some ⟨g, 0, none⟩) (st[i]).1.length cap) ∧ (st[i]).1.length ≤ cap ∧ base ≤ g ∧ vT.ownBlock ≠ some g ∧ vW.ownBlock ≠ some g ∧ g < w.heap.size ∧ Rd w g 0 (st[i]).1

theorem ZB.same {base b4 b5 : Nat} {st : List (List UInt8 × Bool)} {vT vW : Value} {xs : List Value} {w w' : World} (h : ZB base b4 b5 st vT vW xs w) (h4 : w'.heap[b4]? = w.heap[b4]?) (h5 : w'.heap[b5]? = w.heap[b5]?) (hs : w.heap.size ≤ w'.heap.size) (hb : ∀ k, base ≤ k → k < w.heap.size → w'.heap[k]? = w.heap[k]?) : ZB base b4 b5 st vT vW xs w' := by
  refine ⟨h4.trans h.T, h5.trans h.W, ownsRow_same h.oT fun k hk => ?_, ownsRow_same h.oW fun k hk => ?_, h.ne, fun i hi => ?_⟩
  · have := h.oT.lt k hk; exact hb k this.1 this.2
  · have := h.oW.lt k hk; exact hb k this.1 this.2
  · obtain ⟨g, cap, a1, a2, a3, a4, a5, a6, a7⟩ := h.el i hi
    exact ⟨g, cap, a1, a2, a3, a4, a5, Nat.lt_of_lt_of_le a6 hs, a7.same (hb g a3 a6)⟩

section
variable {base b4 b5 g c g' c' g2 c2 : Nat} {st : List (List UInt8 × Bool)} {vT vW : Value} {xs : List Value} {l : List UInt8} {q : Bool} {s7 : Option Nat} {w0 w w8 : World}

/-- In the midst: the marks' row is as it was. -/
theorem ZB.rowW (hB : ZB base b4 b5 st vT vW xs w0) {s1 s4 : Option Nat} {s3 s5 : Option (Nat × Nat)} {n : Nat} {ys : List Value} (hz : ZZ w0 base vT n ys l q s1 s3 s4 s5 s7 w) : w.ownsRow base 4 1 vW st.length (st.map fun p => Value.bool p.2) :=
  ownsRow_same hB.oW fun k hk => hz.block k (hB.oW.lt k hk).2 (.inr fun he => hB.ne k he hk)
theorem ZB.rowT (hB : ZB base b4 b5 st vT vW xs w0) {s1 s4 : Option Nat} {s3 : Option (Nat × Nat)} {n : Nat} {ys : List Value} (hz : ZZ w0 base vT n ys l q s1 s3 s4 none s7 w) : w.ownsRow base 23 1 vT st.length xs :=
  ownsRow_same hB.oT fun k hk => hz.block k (hB.oT.lt k hk).2 (.inl rfl)
/-- A block below base is as it was. -/
theorem ZB.low (hB : ZB base b4 b5 st vT vW xs w0) {s1 s4 : Option Nat} {s3 s5 : Option (Nat × Nat)} {n : Nat} {ys : List Value} (hbase : base ≤ w0.heap.size) (hz : ZZ w0 base vT n ys l q s1 s3 s4 s5 s7 w) (k : Nat) (hk : k < base) : w.heap[k]? = w0.heap[k]? :=
  hz.block k (Nat.lt_of_lt_of_le hk hbase) (.inr fun he => by have := (hB.oT.lt k he).1; omega)
theorem ZB.low8 (hB : ZB base b4 b5 st vT vW xs w0) {s1 s4 : Option Nat} {s3 s5 : Option (Nat × Nat)} {n : Nat} {ys : List Value} (hbase : base ≤ w0.heap.size) (hz : ZZ w0 base vT n ys l q s1 s3 s4 s5 s7 w) (hg : w.grownBy w8 vW.ownBlock) (k : Nat) (hk : k < base) : w8.heap[k]? = w0.heap[k]? :=
  (hg.block k (Nat.lt_of_lt_of_le (Nat.lt_of_lt_of_le hk hbase) hz.size) (fun he => by have := (hB.oW.lt k he.symm).1; omega)).trans (hB.low hbase hz k hk)

theorem ZB.next (hB : ZB base b4 b5 st vT vW xs w0) (hz : ZZ w0 base vT st.length xs l q none (some (g, c)) none (some (g', c')) s7 w) (hg : w.grownBy w8 vW.ownBlock)
    (ho : w8.ownsRow base 4 1 (.slice (some ⟨g2, 0, none⟩) (st.length + 1) c2) (st.length + 1) ((st.map fun p => Value.bool p.2) ++ [.bool q])) (hat : vW.ownBlock = some g2 ∨ g2 = w.heap.size)
    (hb4 : b4 < base) (hb5 : b5 < base) (hne : b4 ≠ b5) (hbase : base ≤ w0.heap.size) :
    ZB base b4 b5 (st ++ [(l, q)]) (.slice (some ⟨g', 0, none⟩) (st.length + 1) c') (.slice (some ⟨g2, 0, none⟩) (st.length + 1) c2) (xs ++ [.slice (some ⟨g, 0, none⟩) l.length c])
      ((w8.setCell ⟨b4, 0, none⟩ (.slice (some ⟨g', 0, none⟩) (st.length + 1) c')).setCell ⟨b5, 0, none⟩ (.slice (some ⟨g2, 0, none⟩) (st.length + 1) c2)) := by
  have hs1 : ∀ k, k ≠ b4 → k ≠ b5 → ((w8.setCell ⟨b4, 0, none⟩ (.slice (some ⟨g', 0, none⟩) (st.length + 1) c')).setCell ⟨b5, 0, none⟩ (.slice (some ⟨g2, 0, none⟩) (st.length + 1) c2)).heap[k]? = w8.heap[k]? := fun k h4 h5 => by
    rw [Below.heap_setCell _ _ _ _ h5, Below.heap_setCell _ _ _ _ h4]
  have hs2 : w8.heap.size = ((w8.setCell ⟨b4, 0, none⟩ (.slice (some ⟨g', 0, none⟩) (st.length + 1) c')).setCell ⟨b5, 0, none⟩ (.slice (some ⟨g2, 0, none⟩) (st.length + 1) c2)).heap.size := by simp [World.setCell]
  obtain ⟨a1, a2, a3, cs, a4, a5⟩ := hz.f3 g c rfl
  obtain ⟨_, _, e, b1, b2, b3, b6⟩ := hz.f5 g' c' rfl
  cases e
  have hgb : base ≤ g := Nat.le_trans hbase a1
  have hoT : vT.ownBlock = some g' ∨ w0.heap.size ≤ g' := b2
  -- the marks' row is not the texts'
  have hWg' : vW.ownBlock ≠ some g' := by
    intro he
    rcases b2 with h | h
    · exact hB.ne g' h he
    · have := (hB.oW.lt g' he).2; omega
  have hg2g : g2 ≠ g := by
    intro he
    rcases hat with h | h
    · have := (hB.oW.lt g2 h).2; omega
    · omega
  have hg2g' : g' ≠ g2 := by
    intro he
    rcases hat with h | h
    · exact hWg' (by rw [he]; exact h)
    · omega
  have hkeep : ∀ k, base ≤ k → k < w.heap.size → vW.ownBlock ≠ some k → ((w8.setCell ⟨b4, 0, none⟩ (.slice (some ⟨g', 0, none⟩) (st.length + 1) c')).setCell ⟨b5, 0, none⟩ (.slice (some ⟨g2, 0, none⟩) (st.length + 1) c2)).heap[k]? = w.heap[k]? := fun k h1 h2 h3 => by
    rw [hs1 k (by omega) (by omega)]
    exact hg.block k h2 (fun he => h3 he.symm)
  have hl1 : (st ++ [(l, q)]).length = st.length + 1 := by simp
  refine ⟨?_, ?_, ?_, ?_, ?_, fun i hi => ?_⟩
  · rw [Below.heap_setCell _ _ _ _ hne]
    have := heap_setCell_at (o := 0) ((hB.low8 hbase hz hg b4 hb4).trans hB.T) (.slice (some ⟨g', 0, none⟩) (st.length + 1) c')
    rw [this]; rfl
  · have h5 : (w8.setCell ⟨b4, 0, none⟩ (.slice (some ⟨g', 0, none⟩) (st.length + 1) c')).heap[b5]? = some (.cells #[vW] 66 (0, 0)) := by
      rw [Below.heap_setCell _ _ _ _ (Ne.symm hne)]; exact (hB.low8 hbase hz hg b5 hb5).trans hB.W
    have := heap_setCell_at (o := 0) h5 (.slice (some ⟨g2, 0, none⟩) (st.length + 1) c2)
    rw [this]; rfl
  · rw [hl1]
    refine ownsRow_same b1 fun k hk => ?_
    cases hk
    exact hkeep g' (owns_cap b1).2.2 b6 hWg'
  · rw [hl1, List.map_append]
    refine ownsRow_same ho fun k hk => ?_
    cases hk
    exact hs1 g2 (by have := (owns_cap ho).2.2; omega) (by have := (owns_cap ho).2.2; omega)
  · intro k hk
    cases hk
    intro he
    cases he
    exact hg2g' rfl
  · rcases Nat.lt_or_ge i st.length with h | h
    · obtain ⟨g1, cap, d1, d2, d3, d4, d5, d6, d7⟩ := hB.el i h
      have he1 : (st ++ [(l, q)])[i] = st[i] := List.getElem_append_left h
      have hxl : xs.length = st.length := by have := hB.oT.1; omega
      rw [he1]
      refine ⟨g1, cap, by rw [List.getElem?_append_left (by omega)]; exact d1, d2, d3, ?_, ?_, ?_, ?_⟩
      · intro he
        have he' : g' = g1 := by simpa [Value.ownBlock] using he
        rcases b2 with h | h
        · exact d4 (by rw [← he']; exact h)
        · omega
      · intro he
        have he' : g2 = g1 := by simpa [Value.ownBlock] using he
        rcases hat with h | h
        · exact d5 (by rw [← he']; exact h)
        · have := hz.size; omega
      · rw [← hs2]; exact Nat.lt_of_lt_of_le d6 (Nat.le_trans hz.size hg.size)
      · refine (d7.same (hz.block g1 d6 (.inr d4))).same (hkeep g1 d3 (Nat.lt_of_lt_of_le d6 hz.size) d5)
    · have hi' : i = st.length := by omega
      subst hi'
      have he1 : (st ++ [(l, q)])[st.length] = (l, q) := by simp
      have hxl : xs.length = st.length := by have := hB.oT.1; omega
      rw [he1]
      refine ⟨g, c, by rw [← hxl]; simp, a3, hgb, ?_, ?_, ?_, ?_⟩
      · intro he; cases he; exact b3 rfl
      · intro he; cases he; exact hg2g rfl
      · rw [← hs2]; exact Nat.lt_of_lt_of_le a2 hg.size
      · exact (Rd.of_block a4 a5).same (hkeep g hgb a2 (fun he => by have := (hB.oW.lt g he).2; omega))
end

/-- The state of ZZLines: what was kept, over the world w0 in which it began. -/
structure ZL (w0 : World) (base c B b4 b5 : Nat) (st : List (List UInt8 × Bool)) (w : World) : Prop where
  os : w.os = w0.os
  tape : w.tape = w0.tape
  output : w.output = w0.output
  size : base ≤ w.heap.size
  keep : ∀ k, k < base → k ≠ c → k ≠ B → k ≠ b4 → k ≠ b5 → w.heap[k]? = w0.heap[k]?
  few : st.length ≤ (st.map (·.1.length)).sum
  box : ∃ vT vW xs, ZB base b4 b5 st vT vW xs w

theorem ZL.only {w0 : World} {base c B b4 b5 : Nat} {st : List (List UInt8 × Bool)} {w w' : World} (h : ZL w0 base c B b4 b5 st w) (ho : Only c 0 B w w') (hc : c < base) (hB : B < base) (h4 : b4 < base) (h5 : b5 < base) (n1 : b4 ≠ c) (n2 : b4 ≠ B) (n3 : b5 ≠ c) (n4 : b5 ≠ B) : ZL w0 base c B b4 b5 st w' := by
  have hk : ∀ k, k < w.heap.size → k ≠ c → k ≠ B → w'.heap[k]? = w.heap[k]? := ho.block
  have hs := h.size
  obtain ⟨vT, vW, xs, hb⟩ := h.box
  exact ⟨ho.os.trans h.os, ho.tape.trans h.tape, ho.output.trans h.output, Nat.le_trans h.size ho.size, fun k a1 a2 a3 a4 a5 => (hk k (by omega) a2 a3).trans (h.keep k a1 a2 a3 a4 a5), h.few, vT, vW, xs,
    hb.same (hk b4 (by omega) n1 n2) (hk b5 (by omega) n3 n4) ho.size (fun k a1 a2 => hk k a2 (by omega) (by omega))⟩

end Go.Proofs.YtdljobmhnnegiaaDoor
