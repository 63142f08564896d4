/- The converter in memory: which block has which part, and what of it stays behind each kind of step. -/
import Derived.Test.YtdljobmhnnegiaaDoorConv
import Derived.Test.YtdljobmhnnegiaaDoorLinesZ
import Derived.Shelf.Unicode.IsSpaceAny
namespace Go.Proofs.YtdljobmhnnegiaaDoor
open Go.RowKit

/-- The library's tables that the converter needs. -/
structure G5 (w : World) : Prop where
  g4 : G4 w
  ascii : Lib.TabIs Tryd.prog w "strings.asciiSpace" .u8 Lib.asciiSpaceTab
  white : Lib.WhiteTab 6 w
theorem ascii_at : ∃ g, Tryd.prog.globalNamed "strings.asciiSpace" = some g := by
  have h : (Tryd.prog.globalNamed "strings.asciiSpace").isSome = true := by kernel_rfl
  exact Option.isSome_iff_exists.1 h
theorem G5.below {w w' : World} (h : G5 w) (hb : Below w.heap.size w w') : G5 w' := by
  obtain ⟨g, hg⟩ := ascii_at
  exact ⟨h.g4.below hb, TabIs_below hg h.ascii hb, WhiteTab_below h.white hb⟩

/-- The blocks of the converter (c) and of the variable that gathers its events (O), the world in which all began, the package. -/
structure Cf where
  c : Nat
  O : Nat
  w0 : World
  pkg : List UInt8

def ptrs (gs : List Nat) : List Value := gs.map fun g => .pointer (some ⟨g, 0, none⟩)
/-- A pending report. -/
def repBlk (p : List UInt8 × List UInt8) : Obj :=
  .cells #[.string (S p.1), .string ⟨#[]⟩, .string (S p.2), .slice none 0 0, .string ⟨#[]⟩, .string ⟨#[]⟩, .string ⟨#[]⟩, .string ⟨#[]⟩, .string ⟨#[]⟩] 71 (0, 0)

/-- A slice of bytes whose block is listed. -/
def OutR (kp : List (Nat × Obj)) (l : List UInt8) (ov : Value) : Prop :=
  (ov = .slice none 0 0 ∧ l = []) ∨ ∃ g cap cur, ov = .slice (some ⟨g, 0, none⟩) l.length cap ∧ l.length ≤ cap ∧ (g, Obj.cells cur 5 (0, 0)) ∈ kp ∧ cur.toList.take l.length = vals l
theorem OutR.form {kp : List (Nat × Obj)} {l : List UInt8} {ov : Value} (h : OutR kp l ov) : ∃ p n c, ov = .slice p n c := by
  rcases h with ⟨h, _⟩ | ⟨g, cap, _, h, _⟩
  · exact ⟨_, _, _, h⟩
  · exact ⟨_, _, _, h⟩
theorem OutR.mono {kp kp' : List (Nat × Obj)} {l : List UInt8} {ov : Value} (h : OutR kp l ov) (hs : ∀ p ∈ kp, p ∈ kp') : OutR kp' l ov := by
  rcases h with h | ⟨g, cap, cur, a1, a2, a3, a4⟩
  · exact .inl h
  · exact .inr ⟨g, cap, cur, a1, a2, hs _ a3, a4⟩

/-- The nine cells of an event. -/
def evCells (e : Ev) (pkg : List UInt8) (ov : Value) : List Value :=
  [.string (S e.action), .string (S pkg), .string (S e.test), ov, .string (S e.otype), .string (S e.fb), .string (S e.key), .string (S e.value), .string (S e.path)]
/-- The row of the events. -/
def EvRow (kp : List (Nat × Obj)) (pkg : List UInt8) : List Ev → List Value → Prop
  | [], xs => xs = []
  | e :: es, xs => ∃ ov r, xs = evCells e pkg ov ++ r ∧ OutR kp e.output ov ∧ EvRow kp pkg es r
theorem EvRow.mono {kp kp' : List (Nat × Obj)} {pkg : List UInt8} (hs : ∀ p ∈ kp, p ∈ kp') : ∀ {es : List Ev} {xs : List Value}, EvRow kp pkg es xs → EvRow kp' pkg es xs
  | [], _, h => h
  | _ :: _, _, ⟨ov, r, h1, h2, h3⟩ => ⟨ov, r, h1, h2.mono hs, EvRow.mono hs h3⟩
theorem EvRow.snoc {kp : List (Nat × Obj)} {pkg : List UInt8} {e : Ev} {ov : Value} (ho : OutR kp e.output ov) : ∀ {es : List Ev} {xs : List Value}, EvRow kp pkg es xs → EvRow kp pkg (es ++ [e]) (xs ++ evCells e pkg ov)
  | [], _, h => ⟨ov, [], by rw [h]; simp, ho, rfl⟩
  | _ :: _, _, ⟨ov', r, h1, h2, h3⟩ => ⟨ov', r ++ evCells e pkg ov, by rw [h1]; simp, h2, EvRow.snoc ho h3⟩

/-- What the converter's own cells hold (its reports, and its two buffers, apart). -/
def cv (cf : Cf) (s : CS) : Nat → Option Value
  | 0 => some (.func (.func 38) #[] #[.pointer (some ⟨cf.O, 0, none⟩)])
  | 1 => some (.string (S cf.pkg))
  | 3 => some (.string (S s.name))
  | 5 => some (.string (S s.result))
  | 16 => some (.bool s.mFraming)
  | 17 => some (.bool s.mErr)
  | 18 => some (.bool s.mEsc)
  | 19 => some (.bool s.framing)
  | 20 => some (.string (S s.fb))
  | _ => none

/-- The parts of the memory. ρ tells of each block whose it is: 0 the converter, 1 the variable, 2 the reports' row, 3 the events' row, 4 a report, 5 another's to write (xm), 6 to stay as it is (tp), 7 an event's output. -/
structure Rows (cf : Cf) (xm : List Nat) (tp : List (Nat × Obj)) (s : CS) (w : World) (ρ : Nat → Nat) (rv : Value) (gs : List Nat) (ev : Value) (xs : List Value) (kp : List (Nat × Obj)) : Prop where
  rcell : w.cell? ⟨cf.c, 4, none⟩ = some rv
  rrow : w.ownsRow 0 91 1 rv s.report.length (ptrs gs)
  rblk : ∀ q ∈ gs.zip s.report, w.heap[q.1]? = some (repBlk q.2)
  rlen : gs.length = s.report.length
  ocell : w.heap[cf.O]? = some (.cells #[ev] 38 (0, 0))
  orow : w.ownsRow 0 41 9 ev s.evs.length xs
  oev : EvRow kp cf.pkg s.evs xs
  tpb : ∀ p ∈ tp, w.heap[p.1]? = some p.2
  kpb : ∀ p ∈ kp, w.heap[p.1]? = some p.2
  lim : ∀ k, ρ k < 8 → cf.w0.heap.size ≤ k ∧ k < w.heap.size
  r0 : ρ cf.c = 0
  r1 : ρ cf.O = 1
  r2 : ∀ k, rv.ownBlock = some k → ρ k = 2
  r3 : ∀ k, ev.ownBlock = some k → ρ k = 3
  r4 : ∀ g ∈ gs, ρ g = 4
  r5 : ∀ x ∈ xm, ρ x = 5
  r6 : ∀ p ∈ tp, ρ p.1 = 6
  r7 : ∀ p ∈ kp, ρ p.1 = 7
  ndg : gs.Nodup
  ndx : xm.Nodup
  ndt : (tp.map (·.1)).Nodup

structure Core (cf : Cf) (xm : List Nat) (tp : List (Nat × Obj)) (s : CS) (w : World) : Prop where
  bel : Below cf.w0.heap.size cf.w0 w
  g0 : G5 cf.w0
  cells : ∀ j v, cv cf s j = some v → w.cell? ⟨cf.c, j, none⟩ = some v
  fr : ∀ j, w.frozen? ⟨cf.c, j, none⟩ = false
  rows : ∃ ρ rv gs ev xs kp, Rows cf xm tp s w ρ rv gs ev xs kp

section
variable {cf : Cf} {xm : List Nat} {tp : List (Nat × Obj)} {s : CS} {w w' : World}

theorem Core.g (h : Core cf xm tp s w) : G5 w := h.g0.below h.bel
theorem Core.lt0 (h : Core cf xm tp s w) : cf.w0.heap.size ≤ cf.c ∧ cf.c < w.heap.size := by
  obtain ⟨ρ, rv, gs, ev, xs, kp, r⟩ := h.rows
  exact r.lim _ (by rw [r.r0]; decide)

/-- w' is w but for the blocks of bs and new ones. -/
structure Off (bs : List Nat) (w w' : World) : Prop where
  os : w'.os = w.os
  tape : w'.tape = w.tape
  output : w'.output = w.output
  size : w.heap.size ≤ w'.heap.size
  block : ∀ k, k < w.heap.size → k ∉ bs → w'.heap[k]? = w.heap[k]?
theorem Off.of_below (h : Below w.heap.size w w') (bs : List Nat) : Off bs w w' := ⟨h.os, h.tape, h.output, h.size, fun k hk _ => h.block k hk⟩
theorem Off.drew {bs : List Nat} (h : Off bs w w') : Off bs w w'.drew := ⟨h.os, h.tape, h.output, h.size, h.block⟩
theorem Off.set {bs : List Nat} {b o : Nat} (hb : b ∈ bs) (v : Value) (w : World) : Off bs w (w.setCell ⟨b, o, none⟩ v) :=
  ⟨rfl, rfl, rfl, by simp [World.setCell], fun k _ hk => Below.heap_setCell _ _ _ _ (fun e => hk (by rw [e]; exact hb))⟩
theorem Off.row {bs : List Nat} {b : Nat} (hb : b ∈ bs) (row : Array Value) (w : World) : Off bs w (w.setRow b row) :=
  ⟨rfl, rfl, rfl, by simp [World.setRow], fun k _ hk => setRow_other w b k row (fun e => hk (by rw [e]; exact hb))⟩
theorem Off.trans {bs : List Nat} {w'' : World} (h : Off bs w w') (k : Off bs w' w'') : Off bs w w'' :=
  ⟨k.os.trans h.os, k.tape.trans h.tape, k.output.trans h.output, Nat.le_trans h.size k.size, fun i hi hb => (k.block i (Nat.lt_of_lt_of_le hi h.size) hb).trans (h.block i hi hb)⟩
theorem Off.mono {bs bs' : List Nat} (h : Off bs w w') (hs : ∀ b ∈ bs, b ∈ bs') : Off bs' w w' := ⟨h.os, h.tape, h.output, h.size, fun k hk hn => h.block k hk (fun hb => hn (hs k hb))⟩

/-- Where the blocks that count are as they were, all is. -/
theorem Rows.same {ρ : Nat → Nat} {rv : Value} {gs : List Nat} {ev : Value} {xs : List Value} {kp : List (Nat × Obj)} (r : Rows cf xm tp s w ρ rv gs ev xs kp) (hs : w.heap.size ≤ w'.heap.size)
    (hb : ∀ k, k < w.heap.size → ρ k < 8 → ρ k ≠ 0 → ρ k ≠ 5 → w'.heap[k]? = w.heap[k]?) (hc : w'.cell? ⟨cf.c, 4, none⟩ = w.cell? ⟨cf.c, 4, none⟩) : Rows cf xm tp s w' ρ rv gs ev xs kp := by
  have hbb : ∀ k, ρ k < 8 → ρ k ≠ 0 → ρ k ≠ 5 → w'.heap[k]? = w.heap[k]? := fun k h1 h2 h3 => hb k (r.lim k h1).2 h1 h2 h3
  have hk : ∀ k n, ρ k = n → n < 8 → n ≠ 0 → n ≠ 5 → w'.heap[k]? = w.heap[k]? := fun k n e h1 h2 h3 => hbb k (by omega) (by omega) (by omega)
  refine { r with rcell := hc.trans r.rcell, rrow := ownsRow_same r.rrow fun k h => hk k 2 (r.r2 k h) (by omega) (by omega) (by omega), rblk := fun q hq => ?_, ocell := (hk cf.O 1 r.r1 (by omega) (by omega) (by omega)).trans r.ocell, orow := ownsRow_same r.orow fun k h => hk k 3 (r.r3 k h) (by omega) (by omega) (by omega), tpb := fun p hp => (hk p.1 6 (r.r6 p hp) (by omega) (by omega) (by omega)).trans (r.tpb p hp), kpb := fun p hp => (hk p.1 7 (r.r7 p hp) (by omega) (by omega) (by omega)).trans (r.kpb p hp), lim := fun k h => ⟨(r.lim k h).1, Nat.lt_of_lt_of_le (r.lim k h).2 hs⟩ }
  have hq1 : q.1 ∈ gs := (List.of_mem_zip hq).1
  exact (hk q.1 4 (r.r4 _ hq1) (by omega) (by omega) (by omega)).trans (r.rblk q hq)

/-- Only the blocks of others were written. -/
theorem Core.off {bs : List Nat} (h : Core cf xm tp s w) (ho : Off bs w w') (hs : ∀ b ∈ bs, b ∈ xm) : Core cf xm tp s w' := by
  obtain ⟨ρ, rv, gs, ev, xs, kp, r⟩ := h.rows
  have hc : w'.heap[cf.c]? = w.heap[cf.c]? := ho.block _ h.lt0.2 (fun hb => by have := r.r5 _ (hs _ hb); have := r.r0; omega)
  refine ⟨⟨ho.os.trans h.bel.os, ho.tape.trans h.bel.tape, ho.output.trans h.bel.output, Nat.le_trans h.bel.size ho.size, fun k hk => ?_⟩, h.g0, fun j v hv => ?_, fun j => ?_, ρ, rv, gs, ev, xs, kp, ?_⟩
  · rw [ho.block k (Nat.lt_of_lt_of_le hk h.bel.size) (fun hb => by have := (r.lim k (by rw [r.r5 _ (hs _ hb)]; omega)).1; omega)]
    exact h.bel.block k hk
  · rw [World.cell?_of_block (w := w) hc]; exact h.cells j v hv
  · rw [World.frozen?_of_block (w := w) hc]; exact h.fr j
  · exact r.same ho.size (fun k hk _ _ h5 => ho.block k hk (fun hb => h5 (r.r5 _ (hs _ hb)))) (World.cell?_of_block (w := w) hc)
theorem Core.below (h : Core cf xm tp s w) (hb : Below w.heap.size w w') : Core cf xm tp s w' := h.off (Off.of_below hb []) (fun b hb => by cases hb)
theorem Core.drew (h : Core cf xm tp s w) : Core cf xm tp s w.drew := h.below (Below.refl _ _).drew
theorem Core.alloc (h : Core cf xm tp s w) (o : Obj) : Core cf xm tp s (w.alloc o) := h.below ((Below.refl _ _).alloc (Nat.le_refl _) o)

/-- A cell of the converter is written. -/
theorem Core.cset (h : Core cf xm tp s w) {s' : CS} (j : Nat) (v u : Value) (hj : j ≠ 4) (hold : w.cell? ⟨cf.c, j, none⟩ = some u) (hr : s'.report = s.report) (he : s'.evs = s.evs)
    (hv : ∀ j' v', cv cf s' j' = some v' → (j' = j ∧ v' = v) ∨ (j' ≠ j ∧ cv cf s j' = some v')) : Core cf xm tp s' (w.setCell ⟨cf.c, j, none⟩ v) := by
  obtain ⟨ρ, rv, gs, ev, xs, kp, r⟩ := h.rows
  have hz : (w.setCell ⟨cf.c, j, none⟩ v).heap.size = w.heap.size := by simp [World.setCell]
  refine ⟨h.bel.setCell (show cf.w0.heap.size ≤ cf.c from h.lt0.1) v, h.g0, fun j' v' hv' => ?_, fun j' => ?_, ρ, rv, gs, ev, xs, kp, ?_⟩
  · rcases hv j' v' hv' with ⟨rfl, rfl⟩ | ⟨h1, h2⟩
    · exact World.cell?_setCell_same _ _ _ hold
    · rw [cell_set_ne (by omega)]; exact h.cells j' v' h2
  · rw [World.frozen?_setCell]; exact h.fr j'
  · have r' : Rows cf xm tp s (w.setCell ⟨cf.c, j, none⟩ v) ρ rv gs ev xs kp :=
      r.same (by rw [hz]; exact Nat.le_refl _) (fun k hk _ h0 _ => Below.heap_setCell _ _ _ _ (fun e => h0 (by rw [show k = cf.c from e]; exact r.r0))) (cell_set_ne (by omega) _)
    exact { r' with rrow := by rw [hr]; exact r'.rrow, rblk := by rw [hr]; exact r'.rblk, rlen := by rw [hr]; exact r'.rlen, orow := by rw [he]; exact r'.orow, oev := by rw [he]; exact r'.oev }
/-- A cell of a buffer in the converter is written. -/
theorem Core.bset (h : Core cf xm tp s w) (j : Nat) (hj : 6 ≤ j ∧ j < 16) (v : Value) {u : Value} (hold : w.cell? ⟨cf.c, j, none⟩ = some u) : Core cf xm tp s (w.setCell ⟨cf.c, j, none⟩ v) :=
  h.cset j v u (by omega) hold rfl rfl fun j' v' hv => .inr ⟨fun e => by
    subst e
    obtain ⟨h1, h2⟩ := hj
    have : cv cf s j' = none := by
      unfold cv
      split <;> first | omega | rfl
    rw [this] at hv; exact absurd hv (by simp), hv⟩

/-- What a line buffer in the converter does leaves the rest. -/
theorem Core.only (h : Core cf xm tp s w) {o B : Nat} (ho : Only cf.c o B w w') (h6 : o = 6 ∨ o = 11) (hB : B ∈ xm) : Core cf xm tp s w' := by
  obtain ⟨ρ, rv, gs, ev, xs, kp, r⟩ := h.rows
  have hcell : ∀ j, ¬ (o ≤ j ∧ j < o + 5) → w'.cell? ⟨cf.c, j, none⟩ = w.cell? ⟨cf.c, j, none⟩ ∧ w'.frozen? ⟨cf.c, j, none⟩ = w.frozen? ⟨cf.c, j, none⟩ := fun j hj => by
    obtain ⟨cs, t, fr, hh, _⟩ := block_of_cell (h.cells 1 _ rfl)
    obtain ⟨cs', h1, h2, h3⟩ := ho.cblock cs t fr hh
    refine ⟨?_, ?_⟩
    · simp only [World.cell?, hh, h1]; rw [h3 j hj]
    · simp only [World.frozen?, hh, h1]
  have hfr : ∀ j, w'.frozen? ⟨cf.c, j, none⟩ = false := fun j => by
    obtain ⟨cs, t, fr, hh, _⟩ := block_of_cell (h.cells 1 _ rfl)
    obtain ⟨cs', h1, h2, h3⟩ := ho.cblock cs t fr hh
    have := h.fr j
    simp only [World.frozen?, hh] at this
    simp only [World.frozen?, h1]
    exact this
  refine ⟨⟨ho.os.trans h.bel.os, ho.tape.trans h.bel.tape, ho.output.trans h.bel.output, Nat.le_trans h.bel.size ho.size, fun k hk => ?_⟩, h.g0, fun j v hv => ?_, hfr, ρ, rv, gs, ev, xs, kp, ?_⟩
  · rw [ho.block k (Nat.lt_of_lt_of_le hk h.bel.size) (fun e => by have := h.lt0.1; omega) (fun e => by have := (r.lim B (by rw [r.r5 _ hB]; omega)).1; omega)]
    exact h.bel.block k hk
  · rw [(hcell j (fun hj => by
      have : cv cf s j = none := by
        unfold cv
        split <;> first | omega | rfl
      rw [this] at hv; cases hv)).1]
    exact h.cells j v hv
  · exact r.same ho.size (fun k hk _ h0 h5 => ho.block k hk (fun e => h0 (by rw [e]; exact r.r0)) (fun e => h5 (by rw [e]; exact r.r5 _ hB))) (hcell 4 (by omega)).1

/-- A new block for another to write. -/
theorem Core.new (h : Core cf xm tp s w) (o : Obj) : Core cf (w.heap.size :: xm) tp s (w.alloc o) := by
  have h1 := h.alloc o
  obtain ⟨ρ, rv, gs, ev, xs, kp, r⟩ := h.rows
  have hsz : (w.alloc o).heap.size = w.heap.size + 1 := by simp
  have hne : ∀ k, ρ k < 8 → k ≠ w.heap.size := fun k hk => by have := (r.lim k hk).2; omega
  have hρ : ∀ k n, ρ k = n → n < 8 → (if k = w.heap.size then 5 else ρ k) = n := fun k n e hn => by rw [if_neg (hne k (by omega))]; exact e
  have r' : Rows cf xm tp s (w.alloc o) ρ rv gs ev xs kp := r.same (by omega) (fun k hk _ _ _ => Below.heap_alloc _ _ _ hk) (World.cell?_of_block (w := w) (Below.heap_alloc _ _ _ h.lt0.2))
  refine ⟨h1.bel, h1.g0, h1.cells, h1.fr, fun k => if k = w.heap.size then 5 else ρ k, rv, gs, ev, xs, kp, ?_⟩
  refine { r' with lim := fun k hk => ?_, r0 := hρ _ _ r.r0 (by omega), r1 := hρ _ _ r.r1 (by omega), r2 := fun k hk => hρ _ _ (r.r2 k hk) (by omega), r3 := fun k hk => hρ _ _ (r.r3 k hk) (by omega), r4 := fun k hk => hρ _ _ (r.r4 k hk) (by omega), r5 := fun x hx => ?_, r6 := fun k hk => hρ _ _ (r.r6 k hk) (by omega), r7 := fun k hk => hρ _ _ (r.r7 k hk) (by omega), ndx := ?_ }
  · by_cases e : k = w.heap.size
    · rw [e, hsz]; exact ⟨h.bel.size, by omega⟩
    · rw [if_neg e] at hk; have := r.lim k hk; rw [hsz]; omega
  · rcases List.mem_cons.1 hx with rfl | hx
    · rw [if_pos rfl]
    · exact hρ _ _ (r.r5 x hx) (by omega)
  · rw [List.nodup_cons]
    exact ⟨fun hm => by have := (r.lim _ (by rw [r.r5 _ hm]; omega)).2; omega, r.ndx⟩

/-- A block that is another's to write is kept as it is, from now on. -/
theorem Core.take {b : Nat} {o : Obj} (h : Core cf (b :: xm) tp s w) (hb : w.heap[b]? = some o) : Core cf xm ((b, o) :: tp) s w := by
  obtain ⟨ρ, rv, gs, ev, xs, kp, r⟩ := h.rows
  have hb5 : ρ b = 5 := r.r5 b (by simp)
  have hρ : ∀ k n, ρ k = n → n ≠ 5 → (if k = b then 6 else ρ k) = n := fun k n e hn => by rw [if_neg (fun e' => hn (by rw [← e, e']; exact hb5))]; exact e
  have hnd := List.nodup_cons.1 r.ndx
  refine ⟨h.bel, h.g0, h.cells, h.fr, fun k => if k = b then 6 else ρ k, rv, gs, ev, xs, kp, ?_⟩
  refine { r with tpb := fun p hp => ?_, lim := fun k hk => ?_, r0 := hρ _ _ r.r0 (by omega), r1 := hρ _ _ r.r1 (by omega), r2 := fun k hk => hρ _ _ (r.r2 k hk) (by omega), r3 := fun k hk => hρ _ _ (r.r3 k hk) (by omega), r4 := fun k hk => hρ _ _ (r.r4 k hk) (by omega), r5 := fun x hx => ?_, r6 := fun p hp => ?_, r7 := fun k hk => hρ _ _ (r.r7 k hk) (by omega), ndx := hnd.2, ndt := ?_ }
  · rcases List.mem_cons.1 hp with rfl | hp
    · exact hb
    · exact r.tpb p hp
  · by_cases e : k = b
    · rw [e]; exact r.lim b (by omega)
    · rw [if_neg e] at hk; exact r.lim k hk
  · rw [if_neg (fun e => hnd.1 (by rw [← e]; exact hx))]; exact r.r5 x (List.mem_cons_of_mem _ hx)
  · rcases List.mem_cons.1 hp with rfl | hp
    · rw [if_pos rfl]
    · exact hρ _ _ (r.r6 p hp) (by omega)
  · rw [List.map_cons, List.nodup_cons]
    refine ⟨fun hm => ?_, r.ndt⟩
    obtain ⟨p, hp, e⟩ := List.mem_map.1 hm
    have := r.r6 p hp
    rw [e] at this
    simp at this
    omega
/-- .. and is given back. -/
theorem Core.give {b : Nat} {o : Obj} (h : Core cf xm ((b, o) :: tp) s w) : Core cf (b :: xm) tp s w ∧ w.heap[b]? = some o := by
  obtain ⟨ρ, rv, gs, ev, xs, kp, r⟩ := h.rows
  have hb6 : ρ b = 6 := r.r6 (b, o) (by simp)
  refine ⟨?_, r.tpb (b, o) (by simp)⟩
  have hρ : ∀ k n, ρ k = n → n ≠ 6 → (if k = b then 5 else ρ k) = n := fun k n e hn => by rw [if_neg (fun e' => hn (by rw [← e, e']; exact hb6))]; exact e
  have hnd := List.nodup_cons.1 (show ((b, o) :: tp).map (·.1) |>.Nodup from r.ndt)
  refine ⟨h.bel, h.g0, h.cells, h.fr, fun k => if k = b then 5 else ρ k, rv, gs, ev, xs, kp, ?_⟩
  refine { r with tpb := fun p hp => r.tpb p (List.mem_cons_of_mem _ hp), lim := fun k hk => ?_, r0 := hρ _ _ r.r0 (by omega), r1 := hρ _ _ r.r1 (by omega), r2 := fun k hk => hρ _ _ (r.r2 k hk) (by omega), r3 := fun k hk => hρ _ _ (r.r3 k hk) (by omega), r4 := fun k hk => hρ _ _ (r.r4 k hk) (by omega), r5 := fun x hx => ?_, r6 := fun p hp => ?_, r7 := fun k hk => hρ _ _ (r.r7 k hk) (by omega), ndx := ?_, ndt := hnd.2 }
  · by_cases e : k = b
    · rw [e]; exact r.lim b (by omega)
    · rw [if_neg e] at hk; exact r.lim k hk
  · rcases List.mem_cons.1 hx with rfl | hx
    · rw [if_pos rfl]
    · exact hρ _ _ (r.r5 x hx) (by omega)
  · rw [if_neg (fun e => hnd.1 (List.mem_map.2 ⟨p, hp, e⟩))]; exact r.r6 p (List.mem_cons_of_mem _ hp)
  · rw [List.nodup_cons]
    exact ⟨fun hm => by have := r.r5 b hm; omega, r.ndx⟩
/-- Another's block is forgotten. -/
theorem Core.drop {b : Nat} (h : Core cf (b :: xm) tp s w) : Core cf xm tp s w := by
  obtain ⟨ρ, rv, gs, ev, xs, kp, r⟩ := h.rows
  exact ⟨h.bel, h.g0, h.cells, h.fr, ρ, rv, gs, ev, xs, kp, { r with r5 := fun x hx => r.r5 x (List.mem_cons_of_mem _ hx), ndx := (List.nodup_cons.1 r.ndx).2 }⟩
theorem Core.tpb (h : Core cf xm tp s w) {p : Nat × Obj} (hp : p ∈ tp) : w.heap[p.1]? = some p.2 := by
  obtain ⟨ρ, rv, gs, ev, xs, kp, r⟩ := h.rows
  exact r.tpb p hp
theorem Core.xlt (h : Core cf xm tp s w) {b : Nat} (hb : b ∈ xm) : cf.w0.heap.size ≤ b ∧ b < w.heap.size ∧ b ≠ cf.c := by
  obtain ⟨ρ, rv, gs, ev, xs, kp, r⟩ := h.rows
  have h5 := r.r5 b hb
  have := r.lim b (by omega)
  exact ⟨this.1, this.2, fun e => by rw [e, r.r0] at h5; omega⟩
end

/-- The cells of the two buffers in the converter are as they were. -/
def Same615 (c : Nat) (w w' : World) : Prop := ∀ j, 6 ≤ j → j < 16 → w'.cell? ⟨c, j, none⟩ = w.cell? ⟨c, j, none⟩
theorem Same615.refl (c : Nat) (w : World) : Same615 c w w := fun _ _ _ => rfl
theorem Same615.trans {c : Nat} {a b d : World} (h : Same615 c a b) (k : Same615 c b d) : Same615 c a d := fun j h1 h2 => (k j h1 h2).trans (h j h1 h2)
theorem Same615.block {c : Nat} {w w' : World} (h : w'.heap[c]? = w.heap[c]?) : Same615 c w w' := fun _ _ _ => World.cell?_of_block (w := w) h
theorem Same615.set {c : Nat} (w : World) (j : Nat) (hj : j < 6 ∨ 16 ≤ j) (v : Value) : Same615 c w (w.setCell ⟨c, j, none⟩ v) := fun k h1 h2 => cell_set_ne (by omega) v
theorem Same615.setx {c : Nat} (w : World) {b o : Nat} (hb : b ≠ c) (v : Value) : Same615 c w (w.setCell ⟨b, o, none⟩ v) := .block (Below.heap_setCell _ _ _ _ (Ne.symm hb))

section
variable {cf : Cf} {xm : List Nat} {tp : List (Nat × Obj)} {s : CS} {w : World}
theorem Core.setName (h : Core cf xm tp s w) (x : List UInt8) : Core cf xm tp { s with name := x } (w.setCell ⟨cf.c, 3, none⟩ (.string (S x))) ∧ Same615 cf.c w (w.setCell ⟨cf.c, 3, none⟩ (.string (S x))) := by
  refine ⟨h.cset 3 _ _ (by omega) (h.cells 3 _ rfl) rfl rfl fun j' v' hv => ?_, Same615.set w 3 (by omega) _⟩
  by_cases e : j' = 3
  · subst e; exact .inl ⟨rfl, (Option.some.inj hv).symm⟩
  · refine .inr ⟨e, ?_⟩
    rw [← hv]
    unfold cv
    split <;> first | rfl | exact absurd rfl e
theorem Core.setResult (h : Core cf xm tp s w) (x : List UInt8) : Core cf xm tp { s with result := x } (w.setCell ⟨cf.c, 5, none⟩ (.string (S x))) ∧ Same615 cf.c w (w.setCell ⟨cf.c, 5, none⟩ (.string (S x))) := by
  refine ⟨h.cset 5 _ _ (by omega) (h.cells 5 _ rfl) rfl rfl fun j' v' hv => ?_, Same615.set w 5 (by omega) _⟩
  by_cases e : j' = 5
  · subst e; exact .inl ⟨rfl, (Option.some.inj hv).symm⟩
  · refine .inr ⟨e, ?_⟩
    rw [← hv]
    unfold cv
    split <;> first | rfl | exact absurd rfl e
theorem Core.setMF (h : Core cf xm tp s w) (x : Bool) : Core cf xm tp { s with mFraming := x } (w.setCell ⟨cf.c, 16, none⟩ (.bool x)) ∧ Same615 cf.c w (w.setCell ⟨cf.c, 16, none⟩ (.bool x)) := by
  refine ⟨h.cset 16 _ _ (by omega) (h.cells 16 _ rfl) rfl rfl fun j' v' hv => ?_, Same615.set w 16 (by omega) _⟩
  by_cases e : j' = 16
  · subst e; exact .inl ⟨rfl, (Option.some.inj hv).symm⟩
  · refine .inr ⟨e, ?_⟩
    rw [← hv]
    unfold cv
    split <;> first | rfl | exact absurd rfl e
theorem Core.setErr (h : Core cf xm tp s w) (x : Bool) : Core cf xm tp { s with mErr := x } (w.setCell ⟨cf.c, 17, none⟩ (.bool x)) ∧ Same615 cf.c w (w.setCell ⟨cf.c, 17, none⟩ (.bool x)) := by
  refine ⟨h.cset 17 _ _ (by omega) (h.cells 17 _ rfl) rfl rfl fun j' v' hv => ?_, Same615.set w 17 (by omega) _⟩
  by_cases e : j' = 17
  · subst e; exact .inl ⟨rfl, (Option.some.inj hv).symm⟩
  · refine .inr ⟨e, ?_⟩
    rw [← hv]
    unfold cv
    split <;> first | rfl | exact absurd rfl e
theorem Core.setEsc (h : Core cf xm tp s w) (x : Bool) : Core cf xm tp { s with mEsc := x } (w.setCell ⟨cf.c, 18, none⟩ (.bool x)) ∧ Same615 cf.c w (w.setCell ⟨cf.c, 18, none⟩ (.bool x)) := by
  refine ⟨h.cset 18 _ _ (by omega) (h.cells 18 _ rfl) rfl rfl fun j' v' hv => ?_, Same615.set w 18 (by omega) _⟩
  by_cases e : j' = 18
  · subst e; exact .inl ⟨rfl, (Option.some.inj hv).symm⟩
  · refine .inr ⟨e, ?_⟩
    rw [← hv]
    unfold cv
    split <;> first | rfl | exact absurd rfl e
theorem Core.setFraming (h : Core cf xm tp s w) (x : Bool) : Core cf xm tp { s with framing := x } (w.setCell ⟨cf.c, 19, none⟩ (.bool x)) ∧ Same615 cf.c w (w.setCell ⟨cf.c, 19, none⟩ (.bool x)) := by
  refine ⟨h.cset 19 _ _ (by omega) (h.cells 19 _ rfl) rfl rfl fun j' v' hv => ?_, Same615.set w 19 (by omega) _⟩
  by_cases e : j' = 19
  · subst e; exact .inl ⟨rfl, (Option.some.inj hv).symm⟩
  · refine .inr ⟨e, ?_⟩
    rw [← hv]
    unfold cv
    split <;> first | rfl | exact absurd rfl e
theorem Core.setFb (h : Core cf xm tp s w) (x : List UInt8) : Core cf xm tp { s with fb := x } (w.setCell ⟨cf.c, 20, none⟩ (.string (S x))) ∧ Same615 cf.c w (w.setCell ⟨cf.c, 20, none⟩ (.string (S x))) := by
  refine ⟨h.cset 20 _ _ (by omega) (h.cells 20 _ rfl) rfl rfl fun j' v' hv => ?_, Same615.set w 20 (by omega) _⟩
  by_cases e : j' = 20
  · subst e; exact .inl ⟨rfl, (Option.some.inj hv).symm⟩
  · refine .inr ⟨e, ?_⟩
    rw [← hv]
    unfold cv
    split <;> first | rfl | exact absurd rfl e
end

end Go.Proofs.YtdljobmhnnegiaaDoor
