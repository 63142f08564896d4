/- output.write and output.flush: the line buffer of the converter's output, its callback writeOutputEvent. -/
import Derived.Test.YtdljobmhnnegiaaDoorWoEv
import Derived.Test.YtdljobmhnnegiaaDoorWrite
import Derived.Test.YtdljobmhnnegiaaDoorWriteLaw
namespace Go.Proofs.YtdljobmhnnegiaaDoor
open Go.RowKit

/-- The output's callback. -/
def FV (c : Nat) : Value := .func (.func 53) #[.pointer (some ⟨c, 0, none⟩)] #[]

/-- The cells of the input buffer are as in W0. -/
def Same610 (c : Nat) (W0 w : World) : Prop := ∀ j, 6 ≤ j → j < 11 → w.cell? ⟨c, j, none⟩ = W0.cell? ⟨c, j, none⟩
theorem Same610.refl (c : Nat) (w : World) : Same610 c w w := fun _ _ _ => rfl
theorem Same610.trans {c : Nat} {a b d : World} (h : Same610 c a b) (k : Same610 c b d) : Same610 c a d := fun j h1 h2 => (k j h1 h2).trans (h j h1 h2)
theorem Same615.i {c : Nat} {w w' : World} (h : Same615 c w w') : Same610 c w w' := fun j h1 h2 => h j h1 (by omega)

theorem Only.cell {c o B : Nat} {w w' : World} (h : Only c o B w w') {v : Value} {i : Nat} (hv : w.cell? ⟨c, i, none⟩ = some v) (j : Nat) (hj : ¬ (o ≤ j ∧ j < o + 5)) : w'.cell? ⟨c, j, none⟩ = w.cell? ⟨c, j, none⟩ := by
  obtain ⟨cs, t, fr, hh, _⟩ := block_of_cell hv
  obtain ⟨cs', h1, h2, h3⟩ := h.cblock cs t fr hh
  simp only [World.cell?, hh, h1]; rw [h3 j hj]

theorem Core.outSet {cf : Cf} {xm : List Nat} {tp : List (Nat × Obj)} {s : CS} {w : World} (h : Core cf xm tp s w) (b : LB) : Core cf xm tp { s with out := b } w := by
  obtain ⟨ρ, rv, gs, ev, xs, kp, r⟩ := h.rows
  exact ⟨h.bel, h.g0, fun j v hv => h.cells j v (by rw [← hv]; rfl), h.fr, ρ, rv, gs, ev, xs, kp, { r with }⟩

/-- The output's state: the converter's, and how many bytes were handed on. -/
def woS (x : CS × Nat) (l : List UInt8) : CS × Nat := (woF x.1 l, x.2 + l.length)
def JO (cf : Cf) (B : Nat) (xm : List Nat) (tp : List (Nat × Obj)) (W0 : World) (A : Nat) (x : CS × Nat) (w : World) : Prop :=
  Core cf (B :: xm) tp x.1 w ∧ Same610 cf.c W0 w ∧ x.1.evs.length ≤ A + 2 * x.2

theorem JO.only {cf : Cf} {B : Nat} {xm : List Nat} {tp : List (Nat × Obj)} {W0 : World} {A : Nat} {x : CS × Nat} {w w' : World} (h : JO cf B xm tp W0 A x w) (ho : Only cf.c 11 B w w') : JO cf B xm tp W0 A x w' :=
  ⟨h.1.only ho (.inr rfl) (by simp), fun j h1 h2 => (ho.cell (h.1.cells 1 _ rfl) j (by omega)).trans (h.2.1 j h1 h2), h.2.2⟩

theorem JO.cb {cf : Cf} {B : Nat} {xm : List Nat} {tp : List (Nat × Obj)} {W0 : World} {A M : Nat} (hA : A + 2 * M + 2 ≤ 100000000) :
    CB Prod.snd M cf.c 11 B 1024 (FV cf.c) (FV cf.c) (JO cf B xm tp W0 A) woS 53 #[.pointer (some ⟨cf.c, 0, none⟩)] #[] := by
  intro x n i rest mid esc w k hJ hL hk hkl hpot
  obtain ⟨s, f⟩ := x
  obtain ⟨hC, hS, hev⟩ := hJ
  dsimp only at hC hev hpot
  obtain ⟨raw, hr, hsz⟩ := hL.buf
  have hlen := hL.len
  have hle := hL.le
  have hl : (rest.take k).length = k := by rw [List.length_take]; omega
  have hw : WB B i k raw (rest.take k) i w := by
    refine ⟨raw, hr, rfl, fun _ _ => rfl, fun j hj => ?_, fun _ => by rw [hl]; omega⟩
    have := (hL.rd.take k) j hj
    simpa [World.cell?, hr] using this
  refine (woEv_any hC hw hsz hl.symm (by omega) (show k ≤ 1024 - i by omega) (by omega) (by omega)).mono ?_
  rintro en w' ⟨rfl, hC', hS', raw', h1, h2, h3, _, _⟩
  have hevl := woF_len s (rest.take k)
  rw [hl] at hevl
  refine ⟨rfl, ⟨hC', hS.trans hS'.i, ?_⟩, ?_⟩
  · show (woF s (rest.take k)).evs.length ≤ A + 2 * (f + (rest.take k).length)
    rw [hl]; omega
  · refine ⟨(hS' 11 (by omega) (by omega)).trans hL.c0, (hS' 12 (by omega) (by omega)).trans hL.c1, (hS' 13 (by omega) (by omega)).trans hL.c2, (hS' 14 (by omega) (by omega)).trans hL.c3, (hS' 15 (by omega) (by omega)).trans hL.c4, hC'.fr, ⟨raw', h1, by rw [h2, hsz]⟩, fun j hj => ?_, by rw [List.length_drop]; omega, hL.le, hL.ne⟩
    have h4 := hL.rd.drop k j hj
    simp only [World.cell?, hr] at h4
    simp only [World.cell?, h1]
    have h5 : raw[i + k + j]? = some (.int .u8 ((rest.drop k).getD j 0).toNat) := h4
    show raw'[i + k + j]? = _
    rw [h3 (i + k + j) (by omega)]
    exact h5

/-- The output buffer. -/
def OB (cf : Cf) (B : Nat) (s : CS) (w : World) : Prop := LBS cf.c 11 B 1024 (FV cf.c) (FV cf.c) s.out.bs.length 0 s.out.bs s.out.mid s.out.esc w ∧ s.out.bs.length < 1024
/-- How many events may yet come of what is in the output buffer. -/
def pe (s : CS) : Nat := s.evs.length + 2 * s.out.bs.length
def OPost (cf : Cf) (B : Nat) (xm : List Nat) (tp : List (Nat × Obj)) (s : CS) (N : Nat) (w : World) (en : Ending) (w' : World) : Prop :=
  en = .returned (.tuple #[]) ∧ Core cf (B :: xm) tp s w' ∧ Same610 cf.c w w' ∧ OB cf B s w' ∧ pe s ≤ N

theorem outW_eq (s : CS) (l : List UInt8) : (writeF woS woS 1024 l.length (s.out, (s, 0)) l).1 = (outW s l).out ∧ { (writeF woS woS 1024 l.length (s.out, (s, 0)) l).2.1 with out := (outW s l).out } = outW s l := by
  have h := writeF_map (φ := (Prod.fst : CS × Nat → CS)) (L := woF) (P := woF) (L' := woS) (P' := woS) (fun _ _ => rfl) (fun _ _ => rfl) 1024 l.length s.out (s, 0) l
  dsimp only at h
  unfold outW
  exact ⟨h.1.symm, by rw [← h.2]⟩

set_option maxRecDepth 100000 in
theorem outW_any {cf : Cf} {B : Nat} {xm : List Nat} {tp : List (Nat × Obj)} {s : CS} {w : World} (h : Core cf (B :: xm) tp s w) (hb : OB cf B s w) {b2 off2 : Nat} {l : List UInt8} (hsrc : ∀ w', (∀ p ∈ tp, w'.heap[p.1]? = some p.2) → Rd w' b2 off2 l)
    (n2 c2 : Nat) (hn2 : n2 = l.length) (hc2 : n2 ≤ c2) (hbig : n2 ≤ 1000000) (hev : pe s ≤ 90000000) :
    Calls Tryd.prog 50 #[.pointer (some ⟨cf.c, 11, none⟩), .slice (some ⟨b2, off2, none⟩) n2 c2] w (OPost cf B xm tp (outW s l) (pe s + 2 * n2) w) := by
  subst hn2
  unfold pe at hev
  have hw := @write_any (CS × Nat) Prod.snd (s.out.bs.length + l.length) cf.c 11 B 1024 53 53 #[.pointer (some ⟨cf.c, 0, none⟩)] #[] #[.pointer (some ⟨cf.c, 0, none⟩)] #[] (JO cf B xm tp w s.evs.length) woS woS
    (JO.cb (by omega)) (JO.cb (by omega)) (fun _ _ => rfl) (fun _ _ => rfl) (fun _ _ => rfl) (fun _ _ => rfl) (fun _ _ _ hj ho => hj.only ho) (fun _ _ hj => hj.1.g.g4) b2 off2 l (fun x w' hj => hsrc w' (fun p hp => hj.1.tpb hp)) (by omega) (by omega)
    s.out (s, 0) w ⟨h, Same610.refl _ _, by dsimp only; omega⟩ hb.1 hb.2 l.length c2 rfl hc2 (by omega) (by dsimp only; omega)
  refine hw.mono ?_
  rintro en w' ⟨rfl, ⟨hC, hS, hj⟩, hL, hlt⟩
  have he := outW_eq s l
  have ht := writeF_tot (pot := (Prod.snd : CS × Nat → Nat)) (L := woS) (P := woS) (fun _ _ => rfl) (fun _ _ => rfl) 1024 l.length s.out (s, 0) l
  have hC' := hC.outSet (outW s l).out
  have hpe : pe (outW s l) ≤ pe s + 2 * l.length := by
    unfold pe
    rw [← he.2]
    rw [he.1] at ht
    dsimp only at ht ⊢
    omega
  rw [he.2] at hC'
  rw [he.1] at hL hlt
  exact ⟨rfl, hC', hS, ⟨hL, hlt⟩, hpe⟩

theorem outFl_eq (s : CS) : (flushF woS s.out (s, 0)).1 = (outFl s).out ∧ { (flushF woS s.out (s, 0)).2.1 with out := (outFl s).out } = outFl s := by
  unfold outFl flushF
  split <;> exact ⟨rfl, rfl⟩

set_option maxRecDepth 100000 in
theorem outFl_any {cf : Cf} {B : Nat} {xm : List Nat} {tp : List (Nat × Obj)} {s : CS} {w : World} (h : Core cf (B :: xm) tp s w) (hb : OB cf B s w) (hev : pe s ≤ 90000000) :
    Calls Tryd.prog 51 #[.pointer (some ⟨cf.c, 11, none⟩)] w (OPost cf B xm tp (outFl s) (pe s) w) := by
  unfold pe at hev
  have hw := @flush_any (CS × Nat) Prod.snd s.out.bs.length cf.c 11 B 1024 (FV cf.c) 53 #[.pointer (some ⟨cf.c, 0, none⟩)] #[] (JO cf B xm tp w s.evs.length) woS
    (JO.cb (by omega)) (fun _ _ => rfl) (fun _ _ _ hj ho => hj.only ho) s.out (s, 0) w ⟨h, Same610.refl _ _, by dsimp only; omega⟩ hb.1 (by dsimp only; omega)
  refine hw.mono ?_
  rintro en w' ⟨rfl, ⟨hC, hS, hj⟩, hL⟩
  have he := outFl_eq s
  have hC' := hC.outSet (outFl s).out
  have hbs : (outFl s).out.bs = [] := by
    unfold outFl flushF
    split
    · rename_i h0; exact h0
    · rfl
  have hpe : pe (outFl s) ≤ pe s := by
    unfold pe
    rw [hbs, ← he.2]
    have h2 : (flushF woS s.out (s, 0)).2.2 ≤ s.out.bs.length := by
      unfold flushF
      split
      · exact Nat.zero_le _
      · show 0 + _ ≤ _; omega
    simp
    omega
  rw [he.2] at hC'
  rw [he.1] at hL
  exact ⟨rfl, hC', hS, ⟨hL, by rw [hbs]; simp⟩, hpe⟩

end Go.Proofs.YtdljobmhnnegiaaDoor
