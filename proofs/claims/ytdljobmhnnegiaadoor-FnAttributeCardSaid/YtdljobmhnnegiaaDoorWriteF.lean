/- The plain functions of lineBuffer.write. -/
import Derived.Test.YtdljobmhnnegiaaDoorLb
import Derived.Laws.CopyOwn
namespace Go.Proofs.YtdljobmhnnegiaaDoor
open Go.RowKit

/-- The lines in a buffer: the place i, the rest, whether in the middle of a line, the escape, the state. -/
structure IS (σ : Type) where
  i : Nat
  rest : List UInt8
  mid : Bool
  esc : Bool
  s : σ

section
variable {σ : Type} (L P : σ → List UInt8 → σ)

/-- Where no line ends: the name of a benchmark is handed on. -/
def tabF (x : IS σ) : IS σ :=
  if x.mid = true then x
  else if 0 ≤ Lib.indexByte x.rest 9 then
    (if benchB (trimRB (x.rest.take (Lib.indexByte x.rest 9).toNat) 32) = true then
      ⟨x.i + ((Lib.indexByte x.rest 9).toNat + 1), x.rest.drop ((Lib.indexByte x.rest 9).toNat + 1), true, x.esc, P x.s (x.rest.take ((Lib.indexByte x.rest 9).toNat + 1))⟩
    else x)
  else x
/-- One line. -/
def lineF (x : IS σ) (k : Nat) : IS σ := ⟨x.i + k, x.rest.drop k, false, x.esc, if x.mid = true then P x.s (x.rest.take k) else L x.s (x.rest.take k)⟩
/-- All lines. -/
def innerF : Nat → IS σ → IS σ
  | 0, x => x
  | k + 1, x =>
    if x.rest = [] then x
    else match (eolF x.esc 0 x.rest).1 with
      | some (j, q) => innerF k (lineF L P { x with esc := (eolF x.esc 0 x.rest).2 } (j + q))
      | none => tabF P { x with esc := (eolF x.esc 0 x.rest).2 }
/-- What is left is slid down, or handed on where the buffer is full. -/
def endF (cap n : Nat) (x : IS σ) : LB × σ :=
  if x.i = 0 ∧ n = cap then (⟨x.rest.drop (trimU x.rest), true, x.esc⟩, P x.s (x.rest.take (trimU x.rest)))
  else (⟨x.rest, x.mid, x.esc⟩, x.s)
/-- One round of write. -/
def roundF (cap : Nat) (b : LB) (chunk : List UInt8) (s : σ) : LB × σ :=
  endF P cap (b.bs.length + chunk.length) (innerF L P (b.bs.length + chunk.length) ⟨0, b.bs ++ chunk, b.mid, b.esc, s⟩)
/-- write. -/
def writeF (cap : Nat) : Nat → LB × σ → List UInt8 → LB × σ
  | 0, x, _ => x
  | k + 1, x, l => if l = [] then x else writeF cap k (roundF L P cap x.1 (l.take (min (cap - x.1.bs.length) l.length)) x.2) (l.drop (min (cap - x.1.bs.length) l.length))
end

theorem eolF_bound : ∀ (l : List UInt8) (e : Bool) (i j q : Nat), (eolF e i l).1 = some (j, q) → i ≤ j ∧ j + q ≤ i + l.length ∧ (i = 0 → 0 < j + q)
  | [], e, i, j, q, h => by simp [eolF] at h
  | c :: r, e, i, j, q, h => by
    simp only [eolF] at h
    split at h
    · simp at h; obtain ⟨rfl, rfl⟩ := h; simp
    · split at h
      · have := eolF_bound r false (i + 1) j q h; simp; omega
      · split at h
        · have := eolF_bound r true (i + 1) j q h; simp; omega
        · split at h
          · rename_i hh; simp at h; obtain ⟨rfl, rfl⟩ := h; simp; omega
          · have := eolF_bound r e (i + 1) j q h; simp; omega

theorem indexByte_lt : ∀ (l : List UInt8) (c : UInt8), Lib.indexByte l c < l.length ∧ -1 ≤ Lib.indexByte l c
  | [], c => by simp [Lib.indexByte]
  | b :: l, c => by
    have ih := indexByte_lt l c
    simp only [Lib.indexByte, List.length_cons]
    split
    · omega
    · split <;> omega

/-- A copy into a row that is known whole, as a step in a region that draws: the world behind it is told outright. -/
theorem step_copy_row {P : Program} {ops : Array Oper} {o : Oper} {a : Act} {w : World} {K : Act → World → Prop} {Q : Exit → Act → World → Prop} {E : Prop} (hgd : o.guard = none) (d s : Operand) (dT sT : TypeId)
    (ho : o.op = .call { callee := .builtin .copy, args := #[d, s], argTypes := #[dT, sT] }) (elem : TypeId) (hu : P.underlying dT = some (.slice elem)) (hsz : (P.info? elem).map (·.size) = some 1)
    (dp sp : Option Addr) (dLen dCap sLen sCap : Nat) (hd : a.eval d = .slice dp dLen dCap) (hs : a.eval s = .slice sp sLen sCap)
    (g off : Nat) (cur : Array Value) (t : TypeId) (hg : w.heap[g]? = some (.cells cur t (0, 0))) (cs : List Value) (hn : cs.length = Nat.min sLen dLen)
    (hpos : 0 < cs.length → dp = some ⟨g, off, none⟩ ∧ ∃ ad, sp = some ad ∧ ∀ j v, cs[j]? = some v → w.cell? (ad.add j) = some v)
    (hfit : off + cs.length ≤ cur.size) (h1 : ∀ v ∈ cs, v.oneCell' = true)
    (h : ∀ w' row, Hid (w' = w.setRow g row) → Hid (row.toList = cur.toList.take off ++ (cs ++ cur.toList.drop (off + cs.length))) → K (a.put o.dst (goInt cs.length)) w') :
    if Region.wanted o (yielded ops a.tmps) = true then Oper.wp P o a w K Q else E := by
  have hw : Region.wanted o (yielded ops a.tmps) = true := by simp [Region.wanted, hgd]
  rw [if_pos hw]
  by_cases h0 : cs.length = 0
  · obtain rfl : cs = [] := List.eq_nil_of_length_eq_zero h0
    have hrun := run_copy_none (P := P) w dT sT o.type elem dp sp dLen dCap sLen sCap hu hsz (by simpa using hn.symm)
    unfold Oper.wp
    simp [execOp, ho, resolve, invoke, builtin, hd, hs, hrun, Result.andThen]
    have hw' : w = w.setRow g cur := by
      refine world_ext rfl rfl rfl rfl fun k => ?_
      by_cases hk : k = g
      · subst hk
        rw [setRow_heap w _ _ _ t _ hg, hg]
      · rw [setRow_other w g k cur hk]
    exact h w cur hw' (show _ = _ by simp)
  · obtain ⟨rfl, ad, rfl, hsrc⟩ := hpos (by omega)
    have hrun := run_copy_row (P := P) w dT sT o.type elem g off dLen dCap ad sLen sCap cur t cs hu hsz hg hn hsrc hfit h1
    unfold Oper.wp
    simp [execOp, ho, resolve, invoke, builtin, hd, hs, hrun, Result.andThen]
    exact h _ _ rfl (show _ = _ by simp)

theorem cell_setRow_ne {w : World} {g : Nat} (row : Array Value) {b o : Nat} (h : b ≠ g) : (w.setRow g row).cell? ⟨b, o, none⟩ = w.cell? ⟨b, o, none⟩ :=
  World.cell?_of_block (setRow_other w g b row h)
theorem frozen_setRow_ne {w : World} {g : Nat} (row : Array Value) {b o : Nat} (h : b ≠ g) : (w.setRow g row).frozen? ⟨b, o, none⟩ = w.frozen? ⟨b, o, none⟩ :=
  World.frozen?_of_block (setRow_other w g b row h)
theorem Only.of_row {c o B : Nat} (w : World) (hne : B ≠ c) (row : Array Value) : Only c o B w (w.setRow B row) :=
  ⟨rfl, rfl, rfl, by simp [World.setRow], fun k _ _ hB => setRow_other w B k row hB, fun cs t fr h => ⟨cs, by rw [setRow_other w B c row (Ne.symm hne)]; exact h, rfl, fun _ _ => rfl⟩⟩

/-- Behind a copy into the buffer: what lies there from i' on. -/
theorem LBS.row {c o B cap : Nat} {lv pv : Value} {n i : Nat} {rest : List UInt8} {mid esc : Bool} {w : World} (h : LBS c o B cap lv pv n i rest mid esc w) (row : Array Value) (hs : row.size = cap)
    (i' : Nat) (rest' : List UInt8) (hlen : n = i' + rest'.length) (hrow : (row.toList.drop i').take rest'.length = vals rest') : LBS c o B cap lv pv n i' rest' mid esc (w.setRow B row) := by
  have hc : c ≠ B := Ne.symm h.ne
  refine ⟨?_, ?_, ?_, ?_, ?_, ?_, ?_, ?_, hlen, h.le, h.ne⟩
  · rw [cell_setRow_ne row hc]; exact h.c0
  · rw [cell_setRow_ne row hc]; exact h.c1
  · rw [cell_setRow_ne row hc]; exact h.c2
  · rw [cell_setRow_ne row hc]; exact h.c3
  · rw [cell_setRow_ne row hc]; exact h.c4
  · intro j; rw [frozen_setRow_ne row hc]; exact h.fr j
  · obtain ⟨raw, hr, _⟩ := h.buf
    exact ⟨row, setRow_heap w _ _ _ _ _ hr, hs⟩
  · intro j hj
    obtain ⟨raw, hr, _⟩ := h.buf
    simp only [World.cell?, setRow_heap w _ _ _ _ _ hr]
    have : ((row.toList.drop i').take rest'.length)[j]? = some (.int .u8 (rest'.getD j 0).toNat) := by
      rw [hrow]
      simp [vals, List.getElem?_map, List.getElem?_eq_getElem hj, List.getD_eq_getElem?_getD]
    rw [List.getElem?_take, if_pos hj, List.getElem?_drop] at this
    simpa using this

/-- The rest slid to the buffer's head. -/
theorem LBS.slide {c o B cap : Nat} {lv pv : Value} {n i : Nat} {rest : List UInt8} {mid esc : Bool} {w : World} (h : LBS c o B cap lv pv n i rest mid esc w) (row : Array Value) (cur : Array Value) (hcur : cur.size = cap)
    (hrow : row.toList = cur.toList.take 0 ++ (vals rest ++ cur.toList.drop (0 + (vals rest).length))) : LBS c o B cap lv pv (n - i) 0 rest mid esc ((w.setRow B row).setCell ⟨c, o, none⟩ (.slice (some ⟨B, 0, none⟩) (n - i) cap)) := by
  have hc : c ≠ B := Ne.symm h.ne
  have hl := h.len
  have hle := h.le
  have hs : row.size = cap := by
    have : row.toList.length = cap := by
      have hcl : cur.toList.length = cap := by simpa using hcur
      rw [hrow, List.take_zero, List.nil_append, List.length_append, List.length_drop, vals_length, hcl]
      omega
    simpa using this
  obtain ⟨raw, hr, _⟩ := h.buf
  refine ⟨World.cell?_setCell_same _ _ _ (by rw [cell_setRow_ne row hc]; exact h.c0), ?_, ?_, ?_, ?_, ?_, ⟨row, ?_, hs⟩, ?_, by omega, by omega, h.ne⟩
  · rw [cell_set_ne (by omega), cell_setRow_ne row hc]; exact h.c1
  · rw [cell_set_ne (by omega), cell_setRow_ne row hc]; exact h.c2
  · rw [cell_set_ne (by omega), cell_setRow_ne row hc]; exact h.c3
  · rw [cell_set_ne (by omega), cell_setRow_ne row hc]; exact h.c4
  · intro j; rw [World.frozen?_setCell, frozen_setRow_ne row hc]; exact h.fr j
  · rw [Below.heap_setCell _ _ _ _ h.ne]; exact setRow_heap w _ _ _ _ _ hr
  · have : Rd (w.setRow B row) B 0 rest := Rd.of_block (setRow_heap w _ _ _ _ _ hr) (by rw [hrow, List.take_zero, List.nil_append, List.take_append_of_le_length (by rw [vals_length]; exact Nat.le_refl _), List.take_of_length_le (by rw [vals_length]; exact Nat.le_refl _)])
    intro j hj
    rw [cell_set_ne (fun hh => h.ne hh.1)]
    exact this j hj
theorem Only.slide {c o B : Nat} (w : World) (hne : B ≠ c) (row : Array Value) (v : Value) : Only c o B w ((w.setRow B row).setCell ⟨c, o, none⟩ v) := by
  have h1 := Only.of_row (o := o) w hne row
  have h2 := Only.of_set (c := c) (o := o) (B := B) (w.setRow B row) o (by omega) v
  refine ⟨h2.os.trans h1.os, h2.tape.trans h1.tape, h2.output.trans h1.output, Nat.le_trans h1.size h2.size, fun k hk hc hB => (h2.block k (Nat.lt_of_lt_of_le hk h1.size) hc hB).trans (h1.block k hk hc hB), fun cs t fr h => ?_⟩
  obtain ⟨cs1, e1, s1, k1⟩ := h1.cblock cs t fr h
  obtain ⟨cs2, e2, s2, k2⟩ := h2.cblock cs1 t fr e1
  exact ⟨cs2, e2, s2.trans s1, fun j hj => (k2 j hj).trans (k1 j hj)⟩

theorem writeF_nil {σ : Type} (L P : σ → List UInt8 → σ) (cap f : Nat) (x : LB × σ) : writeF L P cap f x [] = x := by
  cases f with
  | zero => rfl
  | succ f => unfold writeF; rw [if_pos rfl]
theorem writeF_step {σ : Type} (L P : σ → List UInt8 → σ) (cap f : Nat) (x : LB × σ) (l : List UInt8) (hl : l ≠ []) :
    writeF L P cap (f + 1) x l = writeF L P cap f (roundF L P cap x.1 (l.take (min (cap - x.1.bs.length) l.length)) x.2) (l.drop (min (cap - x.1.bs.length) l.length)) := by
  rw [writeF, if_neg hl]
/-- How many bytes were handed on, and are at hand. -/
def tot {σ : Type} (pot : σ → Nat) (x : IS σ) : Nat := pot x.s + x.rest.length

section
variable {σ : Type} {L P : σ → List UInt8 → σ} {pot : σ → Nat} (hpL : ∀ s l, pot (L s l) = pot s + l.length) (hpP : ∀ s l, pot (P s l) = pot s + l.length)
include hpP
theorem tot_tab (x : IS σ) : tot pot (tabF P x) = tot pot x := by
  unfold tabF
  split
  · rfl
  · split
    · split
      · unfold tot; dsimp only; rw [hpP, List.length_take, List.length_drop]; have := indexByte_lt x.rest 9; omega
      · rfl
    · rfl
theorem tot_end (cap n : Nat) (x : IS σ) : pot (endF P cap n x).2 + (endF P cap n x).1.bs.length = tot pot x := by
  unfold endF
  split
  · unfold tot; dsimp only; rw [hpP, List.length_take, List.length_drop]; omega
  · rfl
include hpL
theorem tot_line (x : IS σ) (k : Nat) : tot pot (lineF L P x k) = tot pot x := by
  unfold lineF tot
  dsimp only
  split
  · rw [hpP, List.length_take, List.length_drop]; omega
  · rw [hpL, List.length_take, List.length_drop]; omega
theorem tot_inner : ∀ (q : Nat) (x : IS σ), tot pot (innerF L P q x) = tot pot x
  | 0, x => rfl
  | q + 1, x => by
    unfold innerF
    split
    · rfl
    · split
      · rw [tot_inner q, tot_line hpL hpP]; rfl
      · rw [tot_tab hpP]; rfl
end

/-- One round, as the walk has it. -/
theorem write_round {σ : Type} (L P : σ → List UInt8 → σ) {pot : σ → Nat} (hpL : ∀ s l, pot (L s l) = pot s + l.length) (hpP : ∀ s l, pot (P s l) = pot s + l.length) {M : Nat} {cap n k m nb N : Nat} {A : LB × σ} {bs ch l : List UInt8} {mid esc : Bool} {s' : σ} {X x0 : IS σ}
    (hf : ∃ f, n + 1 ≤ f ∧ pot s' + bs.length + (n + 1) ≤ M ∧ A = writeF L P cap f (⟨bs, mid, esc⟩, s') (l.drop k)) (hnb : nb = bs.length) (hlen : (l.drop k).length = n + 1) (hm : m = min (cap - nb) (n + 1)) (hm0 : 0 < m) (hch : ch = (l.drop k).take m)
    (hcl : ch.length = m) (hN : N = nb + m) (hx0 : x0 = ⟨0, bs ++ ch, mid, esc, s'⟩) (hX : X = innerF L P N x0) : ∃ f, n + 1 - m ≤ f ∧ pot (endF P cap N X).2 + (endF P cap N X).1.bs.length + (n + 1 - m) ≤ M ∧ A = writeF L P cap f (endF P cap N X) (l.drop (k + m)) := by
  obtain ⟨f, hf1, hfM, hf2⟩ := hf
  obtain ⟨g, rfl⟩ : ∃ g, f = g + 1 := ⟨f - 1, by omega⟩
  refine ⟨g, by omega, ?_, ?_⟩
  · rw [tot_end hpP, hX, tot_inner hpL hpP, hx0]
    unfold tot
    dsimp only
    rw [List.length_append, hcl]
    omega
  rw [writeF_step L P cap g _ _ (fun h => by rw [h] at hlen; simp at hlen)] at hf2
  dsimp only at hf2
  rw [hlen, ← hnb, ← hm, ← hch, List.drop_drop] at hf2
  rw [hf2]
  unfold roundF
  dsimp only
  rw [← hnb, hcl, ← hN, ← hx0, ← hX]

/-- The bound of what the inner rounds may hand on. -/
theorem round_bound {σ : Type} (L P : σ → List UInt8 → σ) {pot : σ → Nat} (hpL : ∀ s l, pot (L s l) = pot s + l.length) (hpP : ∀ s l, pot (P s l) = pot s + l.length) {M : Nat} {cap n k m N : Nat} {A : LB × σ} {bs ch l : List UInt8} {mid esc : Bool} {s' : σ} {x0 : IS σ}
    (hf : ∃ f, n + 1 ≤ f ∧ pot s' + bs.length + (n + 1) ≤ M ∧ A = writeF L P cap f (⟨bs, mid, esc⟩, s') (l.drop k)) (hm : m ≤ n + 1) (hcl : ch.length = m) (hx0 : x0 = ⟨0, bs ++ ch, mid, esc, s'⟩) : tot pot (innerF L P N x0) ≤ M := by
  obtain ⟨f, hf1, hfM, hf2⟩ := hf
  rw [tot_inner hpL hpP, hx0]
  unfold tot
  dsimp only
  rw [List.length_append, hcl]
  omega

end Go.Proofs.YtdljobmhnnegiaaDoor
