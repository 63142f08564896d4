/- A line buffer in memory, what a callback of it owes, and the plain functions of lineBuffer.write and flush. -/
import Derived.Test.YtdljobmhnnegiaaDoorEol
import Derived.Deep.RegionHeld3
import Derived.Deep.DeepCutAuto
namespace Go.Proofs.YtdljobmhnnegiaaDoor
open Go.RowKit

/-- A line buffer at place o of block c: its buffer is block B; n bytes are in it, of which those from i on are 'rest'. -/
structure LBS (c o B cap : Nat) (lv pv : Value) (n i : Nat) (rest : List UInt8) (mid esc : Bool) (w : World) : Prop where
  c0 : w.cell? ⟨c, o, none⟩ = some (.slice (some ⟨B, 0, none⟩) n cap)
  c1 : w.cell? ⟨c, o + 1, none⟩ = some (.bool mid)
  c2 : w.cell? ⟨c, o + 2, none⟩ = some lv
  c3 : w.cell? ⟨c, o + 3, none⟩ = some pv
  c4 : w.cell? ⟨c, o + 4, none⟩ = some (.bool esc)
  fr : ∀ j, w.frozen? ⟨c, j, none⟩ = false
  buf : ∃ raw, w.heap[B]? = some (.cells raw 5 (0, 0)) ∧ raw.size = cap
  rd : Rd w B i rest
  len : n = i + rest.length
  le : n ≤ cap
  ne : B ≠ c

theorem LBS.drew {c o B cap : Nat} {lv pv : Value} {n i : Nat} {rest : List UInt8} {mid esc : Bool} {w : World} (h : LBS c o B cap lv pv n i rest mid esc w) : LBS c o B cap lv pv n i rest mid esc w.drew :=
  ⟨h.c0, h.c1, h.c2, h.c3, h.c4, h.fr, h.buf, h.rd, h.len, h.le, h.ne⟩

theorem cell_set_ne {w : World} {b o b' o' : Nat} (h : ¬ (b' = b ∧ o' = o)) (v : Value) : (w.setCell ⟨b, o, none⟩ v).cell? ⟨b', o', none⟩ = w.cell? ⟨b', o', none⟩ :=
  World.cell?_setCell_other _ _ _ _ (fun e => h (by cases e; exact ⟨rfl, rfl⟩))

theorem LBS.set_b {c o B cap : Nat} {lv pv : Value} {n i : Nat} {rest : List UInt8} {mid esc : Bool} {w : World} (h : LBS c o B cap lv pv n i rest mid esc w)
    (n' i' : Nat) (rest' : List UInt8) (hlen : n' = i' + rest'.length) (hle : n' ≤ cap) (hrd : Rd w B i' rest') : LBS c o B cap lv pv n' i' rest' mid esc (w.setCell ⟨c, o, none⟩ (.slice (some ⟨B, 0, none⟩) n' cap)) := by
  refine ⟨World.cell?_setCell_same _ _ _ h.c0, ?_, ?_, ?_, ?_, ?_, ?_, ?_, hlen, hle, h.ne⟩
  · rw [cell_set_ne (by omega)]; exact h.c1
  · rw [cell_set_ne (by omega)]; exact h.c2
  · rw [cell_set_ne (by omega)]; exact h.c3
  · rw [cell_set_ne (by omega)]; exact h.c4
  · intro j; rw [World.frozen?_setCell]; exact h.fr j
  · obtain ⟨raw, hr, hs⟩ := h.buf
    exact ⟨raw, by rw [Below.heap_setCell _ _ _ _ h.ne]; exact hr, hs⟩
  · intro j hj; rw [cell_set_ne (fun hh => h.ne hh.1)]; exact hrd j hj

theorem LBS.set_mid {c o B cap : Nat} {lv pv : Value} {n i : Nat} {rest : List UInt8} {mid esc : Bool} {w : World} (h : LBS c o B cap lv pv n i rest mid esc w) (mid' : Bool) :
    LBS c o B cap lv pv n i rest mid' esc (w.setCell ⟨c, o + 1, none⟩ (.bool mid')) := by
  refine ⟨?_, World.cell?_setCell_same _ _ _ h.c1, ?_, ?_, ?_, ?_, ?_, ?_, h.len, h.le, h.ne⟩
  · rw [cell_set_ne (by omega)]; exact h.c0
  · rw [cell_set_ne (by omega)]; exact h.c2
  · rw [cell_set_ne (by omega)]; exact h.c3
  · rw [cell_set_ne (by omega)]; exact h.c4
  · intro j; rw [World.frozen?_setCell]; exact h.fr j
  · obtain ⟨raw, hr, hs⟩ := h.buf
    exact ⟨raw, by rw [Below.heap_setCell _ _ _ _ h.ne]; exact hr, hs⟩
  · intro j hj; rw [cell_set_ne (fun hh => h.ne hh.1)]; exact h.rd j hj

theorem LBS.set_esc {c o B cap : Nat} {lv pv : Value} {n i : Nat} {rest : List UInt8} {mid esc : Bool} {w : World} (h : LBS c o B cap lv pv n i rest mid esc w) (esc' : Bool) :
    LBS c o B cap lv pv n i rest mid esc' (escW w c o esc') := by
  unfold escW
  refine ⟨?_, ?_, ?_, ?_, World.cell?_setCell_same _ _ _ h.c4, ?_, ?_, ?_, h.len, h.le, h.ne⟩
  · rw [cell_set_ne (by omega)]; exact h.c0
  · rw [cell_set_ne (by omega)]; exact h.c1
  · rw [cell_set_ne (by omega)]; exact h.c2
  · rw [cell_set_ne (by omega)]; exact h.c3
  · intro j; rw [World.frozen?_setCell]; exact h.fr j
  · obtain ⟨raw, hr, hs⟩ := h.buf
    exact ⟨raw, by rw [Below.heap_setCell _ _ _ _ h.ne]; exact hr, hs⟩
  · intro j hj; rw [cell_set_ne (fun hh => h.ne hh.1)]; exact h.rd j hj

/-- Behind what lays at most new blocks. -/
theorem LBS.below {c o B cap : Nat} {lv pv : Value} {n i : Nat} {rest : List UInt8} {mid esc : Bool} {w w' : World} (h : LBS c o B cap lv pv n i rest mid esc w) (hb : Below w.heap.size w w') : LBS c o B cap lv pv n i rest mid esc w' := by
  have hc : c < w.heap.size := World.block_lt_of_cell? w _ h.c0
  obtain ⟨raw, hr, hs⟩ := h.buf
  have hB : B < w.heap.size := by
    rcases Nat.lt_or_ge B w.heap.size with h' | h'
    · exact h'
    · rw [Array.getElem?_eq_none h'] at hr; cases hr
  exact ⟨cellB hb h.c0, cellB hb h.c1, cellB hb h.c2, cellB hb h.c3, cellB hb h.c4, fun j => by rw [hb.frozen (p := ⟨c, j, none⟩) hc]; exact h.fr j, ⟨raw, by rw [hb.block B hB]; exact hr, hs⟩, h.rd.below hb hB, h.len, h.le, h.ne⟩

/-- w' is w but for cells o to o+4 of block c, the cells of block B, and new blocks. -/
structure Only (c o B : Nat) (w w' : World) : Prop where
  os : w'.os = w.os
  tape : w'.tape = w.tape
  output : w'.output = w.output
  size : w.heap.size ≤ w'.heap.size
  block : ∀ k, k < w.heap.size → k ≠ c → k ≠ B → w'.heap[k]? = w.heap[k]?
  cblock : ∀ cs t fr, w.heap[c]? = some (.cells cs t fr) → ∃ cs', w'.heap[c]? = some (.cells cs' t fr) ∧ cs'.size = cs.size ∧ ∀ j, ¬ (o ≤ j ∧ j < o + 5) → cs'[j]? = cs[j]?

theorem Only.of_below {c o B : Nat} {w w' : World} (hb : Below w.heap.size w w') : Only c o B w w' :=
  ⟨hb.os, hb.tape, hb.output, hb.size, fun k hk _ _ => hb.block k hk, fun cs t fr h => by
    have hlt : c < w.heap.size := by
      rcases Nat.lt_or_ge c w.heap.size with h' | h'
      · exact h'
      · rw [Array.getElem?_eq_none h'] at h; cases h
    exact ⟨cs, by rw [hb.block c hlt]; exact h, rfl, fun _ _ => rfl⟩⟩
theorem Only.of_set {c o B : Nat} (w : World) (j : Nat) (hj : o ≤ j ∧ j < o + 5) (v : Value) : Only c o B w (w.setCell ⟨c, j, none⟩ v) :=
  ⟨rfl, rfl, rfl, by simp [World.setCell], fun k _ hc _ => Below.heap_setCell _ _ _ _ hc, fun cs t fr h =>
    ⟨_, heap_setCell_at h v, by simp, fun k hk => by rw [Array.getElem?_setIfInBounds, if_neg (by omega)]⟩⟩
theorem Only.drew {c o B : Nat} {w w' : World} (h : Only c o B w w') : Only c o B w w'.drew := ⟨h.os, h.tape, h.output, h.size, h.block, h.cblock⟩

section
variable {σ : Type} (pot : σ → Nat) (M c o B cap : Nat) (lv pv : Value)

/-- What a callback owes: it takes the next k bytes; pot s is how many were handed on before, M a bound of them. -/
def CB (J : σ → World → Prop) (F : σ → List UInt8 → σ) (f : Nat) (pre post : Array Value) : Prop :=
  ∀ s n i rest mid esc w k, J s w → LBS c o B cap lv pv n i rest mid esc w → 0 < k → k ≤ rest.length → pot s + k ≤ M →
    Calls Tryd.prog f (pre ++ #[.slice (some ⟨B, i, none⟩) k (cap - i)] ++ post) w fun e w' =>
      e = .returned (.tuple #[]) ∧ J (F s (rest.take k)) w' ∧ LBS c o B cap lv pv n (i + k) (rest.drop k) mid esc w'
end

/-- A line buffer's content and marks. -/
structure LB where
  bs : List UInt8
  mid : Bool
  esc : Bool

/-- flush. -/
def flushF {σ : Type} (P : σ → List UInt8 → σ) (b : LB) (s : σ) : LB × σ := if b.bs = [] then (b, s) else ({ b with bs := [] }, P s b.bs)

def FlushPost {σ : Type} (c o B cap : Nat) (lv pv : Value) (J : σ → World → Prop) (P : σ → List UInt8 → σ) (b : LB) (s : σ) (e : Ending) (w' : World) : Prop :=
  e = .returned (.tuple #[]) ∧ J (flushF P b s).2 w' ∧ LBS c o B cap lv pv (flushF P b s).1.bs.length 0 (flushF P b s).1.bs (flushF P b s).1.mid (flushF P b s).1.esc w'

set_option maxRecDepth 100000 in
set_option maxHeartbeats 1000000 in
theorem flush_any {σ : Type} {pot : σ → Nat} {M c o B cap : Nat} {lv : Value} {fp : Nat} {p1 p2 : Array Value} {J : σ → World → Prop} {P : σ → List UInt8 → σ}
    (hP : CB pot M c o B cap lv (.func (.func fp) p1 p2) J P fp p1 p2) (hent : ∀ args w, (callFunc fp args).run Tryd.prog w = .ok (.enter fp args) w)
    (hJ : ∀ s w w', J s w → Only c o B w w' → J s w') (b : LB) (s : σ) (w : World) (h1 : J s w) (h2 : LBS c o B cap lv (.func (.func fp) p1 p2) b.bs.length 0 b.bs b.mid b.esc w) (hM : pot s + b.bs.length ≤ M) :
    Calls Tryd.prog 51 #[.pointer (some ⟨c, o, none⟩)] w (FlushPost c o B cap lv (.func (.func fp) p1 p2) J P b s) := by
  have c0 := h2.c0
  have c3 := h2.c3
  have HJ := Lib.hid h1
  have H2 := Lib.hid h2
  have HP := Lib.hid hP
  have HK := Lib.hid hJ
  clear h1 h2 hP hJ
  obtain ⟨bs, mid, esc⟩ := b
  dsimp only at *
  cases hbs : bs with
  | nil =>
    subst hbs
    go_enter Tryd.func51, Tryd.ntmps51
    go_wp2
    go_end0
    exact ⟨rfl, HJ.out, H2.out⟩
  | cons x r =>
    have hlen : 0 < bs.length := by rw [hbs]; simp
    have HX := Lib.hid hbs
    clear hbs
    go_enter Tryd.func51, Tryd.ntmps51
    have hcall := HP.out s bs.length 0 bs mid esc w.drew bs.length (HK.out s w _ HJ.out (Only.of_below (Below.refl _ _)).drew) H2.out.drew hlen (Nat.le_refl _) hM
    have HC := Lib.hid hcall
    clear hcall
    go_wp2_with fail
    go_region_held3 (fun w' => w'.cell? ⟨c, o, none⟩ = some (.slice (some ⟨B, 0, none⟩) bs.length cap) ∧ w'.cell? ⟨c, o + 3, none⟩ = some (.func (.func fp) p1 p2)) (first | go_keep | exact ⟨hL1.c0, hL1.c3⟩) ((refine HC.out.mono ?_; rintro e w1 ⟨rfl, hJ1, hL1⟩))
    have hc0 := hL1.c0
    have hfr := hL1.fr o
    have HL := Lib.hid hL1
    have HJ1 := Lib.hid hJ1
    clear hL1 hJ1
    go_wp2
    go_end0
    have e1 : flushF P ⟨bs, mid, esc⟩ s = (⟨[], mid, esc⟩, P s bs) := by unfold flushF; rw [if_neg (by rw [HX.out]; simp)]
    rw [← HX.out]
    refine ⟨rfl, ?_, ?_⟩
    · rw [e1]
      have := HJ1.out
      rw [List.take_length] at this
      exact HK.out _ _ _ this (Only.of_set _ _ (by omega) _)
    · rw [e1]
      exact HL.out.set_b 0 0 [] rfl (Nat.zero_le _) (Rd.nil _ _ _)

end Go.Proofs.YtdljobmhnnegiaaDoor
