/- Events as the laws look at them; the story; the walks of FnFailedBuild and FnWaits. -/
import Derived.Test.YtdljobmhnnegiaaDoorZ3
import Derived.Test.YtdljobmhnnegiaaDoorPieces
import Derived.Test.YtdljobmhnnegiaaDoorZ4
import Derived.Test.YtdljobmhnnegiaaDoorZ5
import Derived.Deep.RegionHeld3
import Derived.SliceStrings
import Derived.Deep.Slices
import Derived.BigQuiet

/- Events in memory as the laws look at them: how many, and the nine cells of each. -/
namespace Go.Proofs.YtdljobmhnnegiaaDoor
open Go.RowKit

theorem EvsAt.few {w : World} {pkg : List UInt8} {evs : List Ev} {v : Value} (h : EvsAt w pkg evs v) : evs.length ≤ maxLen := by
  obtain ⟨xs, kp, h1, _, _⟩ := h
  rcases h1.2 with ⟨_, h3⟩ | ⟨g, cap, cur, _, _, _, h3, h4, _⟩
  · rw [h3]; exact Nat.zero_le _
  · exact Nat.le_trans h3 h4
/-- The cells of an event. -/
structure CellsE (w : World) (g i : Nat) (pkg : List UInt8) (e : Ev) (pv : Option Addr) (nv cv : Nat) : Prop where
  c0 : w.cell? ⟨g, i * 9, none⟩ = some (.string (S e.action))
  c1 : w.cell? ⟨g, i * 9 + 1, none⟩ = some (.string (S pkg))
  c2 : w.cell? ⟨g, i * 9 + 2, none⟩ = some (.string (S e.test))
  c3 : w.cell? ⟨g, i * 9 + 3, none⟩ = some (.slice pv nv cv)
  c4 : w.cell? ⟨g, i * 9 + 4, none⟩ = some (.string (S e.otype))
  c5 : w.cell? ⟨g, i * 9 + 5, none⟩ = some (.string (S e.fb))
  c6 : w.cell? ⟨g, i * 9 + 6, none⟩ = some (.string (S e.key))
  c7 : w.cell? ⟨g, i * 9 + 7, none⟩ = some (.string (S e.value))
  c8 : w.cell? ⟨g, i * 9 + 8, none⟩ = some (.string (S e.path))
  out : (pv = none ∧ nv = 0 ∧ cv = 0 ∧ e.output = []) ∨ ∃ g', pv = some ⟨g', 0, none⟩ ∧ nv = e.output.length ∧ nv ≤ cv ∧ (0 < nv → Rd w g' 0 e.output)
theorem EvsAt.at {w : World} {pkg : List UInt8} {evs : List Ev} {g c : Nat} {n : Nat} (h : EvsAt w pkg evs (.slice (some ⟨g, 0, none⟩) n c)) (hn : n = evs.length) (i : Nat) (hi : i < n) :
    ∃ e pv nv cv, Hid (evs[i]? = some e) ∧ CellsE w g i pkg e pv nv cv := by
  subst hn
  obtain ⟨ov, hcell, hov⟩ := h.cell i hi
  obtain ⟨pv, nv, cv, rfl, ho⟩ : ∃ pv nv cv, ov = .slice pv nv cv ∧ ((pv = none ∧ nv = 0 ∧ cv = 0 ∧ evs[i].output = []) ∨ ∃ g', pv = some ⟨g', 0, none⟩ ∧ nv = evs[i].output.length ∧ nv ≤ cv ∧ (0 < nv → Rd w g' 0 evs[i].output)) := by
    rcases hov with ⟨rfl, h0⟩ | ⟨g', c', rfl, h1, h2⟩
    · exact ⟨none, 0, 0, rfl, .inl ⟨rfl, rfl, rfl, h0⟩⟩
    · exact ⟨_, _, _, rfl, .inr ⟨g', rfl, rfl, h1, fun _ => h2⟩⟩
  have hc : ∀ j, j < 9 → w.cell? ⟨g, i * 9 + j, none⟩ = (evCells evs[i] pkg (.slice pv nv cv))[j]? := fun j hj => by rw [← hcell j hj, Nat.mul_comm]
  exact ⟨evs[i], pv, nv, cv, List.getElem?_eq_getElem hi, hc 0 (by omega), hc 1 (by omega), hc 2 (by omega), hc 3 (by omega), hc 4 (by omega), hc 5 (by omega), hc 6 (by omega), hc 7 (by omega), hc 8 (by omega), ho⟩
/-- An output as a string. -/
theorem CellsE.str {w : World} {g i : Nat} {pkg : List UInt8} {e : Ev} {pv : Option Addr} {nv cv : Nat} (h : CellsE w g i pkg e pv nv cv) {w' : World} (hb : Below w.heap.size w w') : (convert 23 9 (.slice pv nv cv)).run Tryd.prog w' = .ok (.string (S e.output)) w' := by
  rcases h.out with ⟨rfl, rfl, rfl, h0⟩ | ⟨g', rfl, h1, h2, h3⟩
  · rw [h0]
    exact run_convert_bytes_nil (P := Tryd.prog) w' 23 5 Tryd.underlying23 Tryd.underlying5 0 0 9 Tryd.underlying9
  · refine conv_str ?_ nv cv h1
    by_cases h0 : 0 < nv
    · exact (h3 h0).below hb ((h3 h0).lt (by omega))
    · rw [List.eq_nil_of_length_eq_zero (l := e.output) (by omega)]; exact Rd.nil _ _ _
theorem CellsE.below {w w' : World} {g i : Nat} {pkg : List UInt8} {e : Ev} {pv : Option Addr} {nv cv : Nat} (h : CellsE w g i pkg e pv nv cv) (hb : Below w.heap.size w w') : CellsE w' g i pkg e pv nv cv :=
  ⟨cellB hb h.c0, cellB hb h.c1, cellB hb h.c2, cellB hb h.c3, cellB hb h.c4, cellB hb h.c5, cellB hb h.c6, cellB hb h.c7, cellB hb h.c8, by
    rcases h.out with h1 | ⟨g', h1, h2, h3, h4⟩
    · exact .inl h1
    · exact .inr ⟨g', h1, h2, h3, fun h0 => (h4 h0).below hb ((h4 h0).lt (by omega))⟩⟩

end Go.Proofs.YtdljobmhnnegiaaDoor

/- impl.Convert over one piece that was made of a string. -/
namespace Go.Proofs.YtdljobmhnnegiaaDoor
open Go.RowKit

theorem pc_one (w : World) (s : ByteArray) (cap : Nat) (hc : s.size ≤ cap) (fr fr2 : Nat × Nat) :
    PC ((w.alloc (.cells (bytesRow s cap) 5 fr)).alloc (.cells #[.slice (some ⟨w.heap.size, 0, none⟩) s.size cap] 23 fr2)) (.slice (some ⟨w.heap.size + 1, 0, none⟩) 1 1) [s.data.toList] := by
  refine ⟨_, 1, rfl, Nat.le_refl _, fun i hi => ?_⟩
  have hi0 : i = 0 := by simp at hi; omega
  subst hi0
  have hl : s.data.toList.length = s.size := by simp
  refine ⟨w.heap.size + 1, 0, w.heap.size, 0, cap, rfl, ?_, by show s.data.toList.length ≤ cap; omega, ?_⟩
  · have := heap_alloc_new (w.alloc (.cells (bytesRow s cap) 5 fr)) (.cells #[.slice (some ⟨w.heap.size, 0, none⟩) s.size cap] 23 fr2)
    rw [size_alloc] at this
    simp only [World.cell?, this]
    show some _ = some (Value.slice _ s.data.toList.length _)
    rw [hl]
    rfl
  · have h0 : ((w.alloc (.cells (bytesRow s cap) 5 fr)).alloc (.cells #[.slice (some ⟨w.heap.size, 0, none⟩) s.size cap] 23 fr2)).heap[w.heap.size]? = some (.cells (bytesRow s cap) 5 fr) := by
      rw [Below.heap_alloc _ _ _ (by rw [size_alloc]; omega)]; exact heap_alloc_new _ _
    exact Rd.of_block h0 (bytesRow_take s cap)

theorem one_call {W w : World} (hG : G5 W) (h1 : Below W.heap.size W w) (s : ByteArray) (hs : s.size ≤ 500000) (cap : Nat) (hc : s.size ≤ cap) (fr fr2 : Nat × Nat) (exit : Int) (f : List UInt8) (close : Bool) :
    Calls Tryd.prog 23 #[.slice (some ⟨w.heap.size + 1, 0, none⟩) 1 1, .string ⟨#[112]⟩, .int .i64 exit, .string (S f), .bool close] ((w.alloc (.cells (bytesRow s cap) 5 fr)).alloc (.cells #[.slice (some ⟨w.heap.size, 0, none⟩) s.size cap] 23 fr2))
      fun e w' => ∃ evs v', e = .returned v' ∧ evs = convF [s.data.toList] exit f close ∧ EvsAt w' [112] evs v' ∧ Below W.heap.size W w' := by
  have hb : Below W.heap.size W ((w.alloc (.cells (bytesRow s cap) 5 fr)).alloc (.cells #[.slice (some ⟨w.heap.size, 0, none⟩) s.size cap] 23 fr2)) := (h1.alloc h1.size _).alloc (by rw [size_alloc]; have := h1.size; omega) _
  refine (convert_any (hG.below hb) (pc_one w s cap hc fr fr2) [112] f exit close (by simp; omega) (by simp)).mono ?_
  intro e w' hp
  obtain ⟨v', rfl, hb2, hev⟩ := hp.evs
  exact ⟨_, v', rfl, rfl, hev, hb.trans (hb2.mono hb.size)⟩

/-- The same, behind a draw. -/
theorem one_callD {W w : World} (hG : G5 W) (h1 : Below W.heap.size W w) (s : ByteArray) (hs : s.size ≤ 500000) (cap : Nat) (hc : s.size ≤ cap) (fr fr2 : Nat × Nat) (exit : Int) (f : List UInt8) (close : Bool) :
    Calls Tryd.prog 23 #[.slice (some ⟨w.heap.size + 1, 0, none⟩) 1 1, .string ⟨#[112]⟩, .int .i64 exit, .string (S f), .bool close] ((w.alloc (.cells (bytesRow s cap) 5 fr)).alloc (.cells #[.slice (some ⟨w.heap.size, 0, none⟩) s.size cap] 23 fr2)).drew
      fun e w' => ∃ evs v', e = .returned v' ∧ evs = convF [s.data.toList] exit f close ∧ EvsAt w' [112] evs v' ∧ Below W.heap.size W w' := by
  have hb : Below W.heap.size W ((w.alloc (.cells (bytesRow s cap) 5 fr)).alloc (.cells #[.slice (some ⟨w.heap.size, 0, none⟩) s.size cap] 23 fr2)) := (h1.alloc h1.size _).alloc (by rw [size_alloc]; have := h1.size; omega) _
  have hd := hb.drew
  have hpc : PC ((w.alloc (.cells (bytesRow s cap) 5 fr)).alloc (.cells #[.slice (some ⟨w.heap.size, 0, none⟩) s.size cap] 23 fr2)).drew (.slice (some ⟨w.heap.size + 1, 0, none⟩) 1 1) [s.data.toList] := pc_one w s cap hc fr fr2
  refine (convert_any (hG.below hd) hpc [112] f exit close (by simp; omega) (by simp)).mono ?_
  intro e w' hp
  obtain ⟨v', rfl, hb2, hev⟩ := hp.evs
  exact ⟨_, v', rfl, rfl, hev, hd.trans (hb2.mono hd.size)⟩

end Go.Proofs.YtdljobmhnnegiaaDoor

/- The plain laws of FnFailedBuild and FnWaits: a build that failed is told in the last event alone; what comes before the end is a beginning of all. -/
namespace Go.Proofs.YtdljobmhnnegiaaDoor

/-- No event tells a build that failed. -/
def NFb (s : CS) : Prop := (∀ e ∈ s.evs, e.fb = []) ∧ s.fb = []
theorem NFb.emit {s : CS} (h : NFb s) (e : Ev) (he : e.fb = []) : NFb (emit s e) := by
  refine ⟨fun x hx => ?_, h.2⟩
  unfold Go.Proofs.YtdljobmhnnegiaaDoor.emit at hx
  rcases List.mem_append.1 hx with hx | hx
  · exact h.1 x hx
  · rw [List.mem_singleton] at hx
    subst hx
    split
    · exact he
    · exact he
theorem NFb.emitN {s : CS} (h : NFb s) (o ty : List UInt8) : NFb (emitN s o ty) := by
  unfold Go.Proofs.YtdljobmhnnegiaaDoor.emitN
  split
  · exact h
  · exact h.emit _ rfl
theorem NFb.woL : ∀ (q : Nat) (s : CS) (ty acc rest : List UInt8), NFb s → NFb (woL q s ty acc rest)
  | 0, s, ty, acc, rest, h => by unfold Go.Proofs.YtdljobmhnnegiaaDoor.woL; exact h.emitN _ _
  | q + 1, s, ty, acc, [], h => by unfold Go.Proofs.YtdljobmhnnegiaaDoor.woL; exact h.emitN _ _
  | q + 1, s, ty, acc, c :: r, h => by
    unfold Go.Proofs.YtdljobmhnnegiaaDoor.woL
    split
    · exact NFb.woL q { s with mEsc := false } _ _ _ h
    · split
      · exact NFb.woL q { s with mEsc := true } _ _ _ h
      · split
        · exact NFb.woL q { Go.Proofs.YtdljobmhnnegiaaDoor.emitN s acc ty with mErr := true } _ _ _ (h.emitN acc ty)
        · split
          · split
            · exact NFb.woL q { Go.Proofs.YtdljobmhnnegiaaDoor.emit s (.out (acc ++ [10]) ty) with mErr := false } _ _ _ (h.emit _ rfl)
            · exact NFb.woL q { Go.Proofs.YtdljobmhnnegiaaDoor.emit s (.out acc ty) with mErr := false } _ _ _ (h.emit _ rfl)
          · exact NFb.woL q s _ _ _ h
theorem NFb.woF (s : CS) (l : List UInt8) (h : NFb s) : NFb (woF s l) := NFb.woL _ _ _ _ _ h
theorem NFb.outW (s : CS) (l : List UInt8) (h : NFb s) : NFb (outW s l) :=
  writeF_keep (I := NFb) NFb.woF NFb.woF 1024 l.length (s.out, s) l h
theorem NFb.outFl (s : CS) (h : NFb s) : NFb (outFl s) :=
  flushF_keep (I := NFb) NFb.woF (b := s.out) (s := s) h
theorem NFb.frame (s : CS) (l : List UInt8) (h : NFb s) : NFb (frameF s l) := NFb.outW { s with framing := true } l h
theorem NFb.flushRep (s : CS) (d : Nat) (h : NFb s) : NFb (flushRep s d) := by
  refine ⟨fun x hx => ?_, h.2⟩
  rcases List.mem_append.1 hx with hx | hx
  · exact h.1 x hx
  · obtain ⟨p, _, rfl⟩ := List.mem_map.1 hx; rfl
theorem updE_fb (act nm : List UInt8) : (updE act nm).2.fb = [] := by
  unfold updE
  split
  · rfl
  · split <;> rfl
theorem NFb.upd (s : CS) (saw : Bool) (o a nm : List UInt8) (h : NFb s) : NFb (updF s saw o a nm) := by
  unfold updF updG
  have h1 : NFb { Go.Proofs.YtdljobmhnnegiaaDoor.flushRep { s with mFraming := saw } 0 with name := (updE a nm).1 } := NFb.flushRep { s with mFraming := saw } 0 h
  split
  · exact h1
  · split
    · exact (NFb.frame _ o h1).emit _ (updE_fb _ _)
    · exact NFb.frame _ o (h1.emit _ (updE_fb _ _))
theorem NFb.rep (s : CS) (saw : Bool) (o a nm : List UInt8) (d : Nat) (h : NFb s) : NFb (repF s saw o a nm d) := by
  unfold repF
  split
  · exact NFb.outW s o h
  · exact NFb.frame _ o (NFb.flushRep { s with mFraming := saw } d h)
theorem NFb.nameAt (s : CS) (d : Nat) (h : NFb s) : NFb (nameAt s d) := by
  unfold Go.Proofs.YtdljobmhnnegiaaDoor.nameAt
  split
  · exact h
  · split <;> exact h
theorem NFb.lineH (s : CS) (saw : Bool) (l : List UInt8) (h : NFb s) : NFb (lineHF s saw l) := by
  unfold lineHF
  split
  · exact NFb.upd _ _ _ _ _ h
  · split
    · exact NFb.rep _ _ _ _ _ _ h
    · exact NFb.outW _ _ (NFb.nameAt _ _ h)
theorem NFb.marked (s : CS) (saw : Bool) (l : List UInt8) (h : NFb s) : NFb (markedF s saw l) := by
  obtain ⟨l2, h2⟩ : ∃ l2, l2 = if trimF l = tName then tNameLine else l := ⟨_, rfl⟩
  obtain ⟨tr, h3⟩ : ∃ tr, tr = if trimF l = tName then tNameLine.dropLast else trimF l := ⟨_, rfl⟩
  rw [markedF_eq s saw l l2 tr h2 h3]
  split
  · exact NFb.frame _ l2 (NFb.flushRep s 0 h)
  · refine NFb.lineH _ _ _ ?_
    unfold skipF
    split <;> exact h
theorem NFb.handle (s : CS) (l : List UInt8) (h : NFb s) : NFb (handleF s l) := by
  unfold handleF
  split
  · exact h
  · split
    · exact NFb.outW _ _ h
    · split
      · exact NFb.marked _ _ _ (NFb.outFl _ h)
      · exact NFb.marked _ _ _ h
theorem NFb.inW (x : CI) (l : List UInt8) (h : NFb x.2) : NFb (inW x l).2 :=
  writeF_keep (I := NFb) NFb.handle NFb.outW 4096 l.length x l h
theorem NFb.fold : ∀ (ps : List (List UInt8)) (x : CI), NFb x.2 → NFb (ps.foldl Go.Proofs.YtdljobmhnnegiaaDoor.inW x).2
  | [], _, h => h
  | p :: ps, x, h => NFb.fold ps (Go.Proofs.YtdljobmhnnegiaaDoor.inW x p) (NFb.inW x p h)

/-- The same, of the events alone. -/
theorem evs_woF (s : CS) (l : List UInt8) (h : ∀ e ∈ s.evs, e.fb = []) : ∀ e ∈ (woF s l).evs, e.fb = [] := by
  have key : ∀ (q : Nat) (s : CS) (ty acc rest : List UInt8), (∀ e ∈ s.evs, e.fb = []) → ∀ e ∈ (woL q s ty acc rest).evs, e.fb = [] := by
    intro q
    have hem : ∀ (s : CS) (o ty : List UInt8), (∀ e ∈ s.evs, e.fb = []) → ∀ e ∈ (emit s (.out o ty)).evs, e.fb = [] := fun s o ty h x hx => by
      rcases List.mem_append.1 hx with hx | hx
      · exact h x hx
      · rw [List.mem_singleton] at hx; subst hx; rfl
    have hen : ∀ (s : CS) (o ty : List UInt8), (∀ e ∈ s.evs, e.fb = []) → ∀ e ∈ (emitN s o ty).evs, e.fb = [] := fun s o ty h => by
      unfold emitN
      split
      · exact h
      · exact hem s o ty h
    induction q with
    | zero => intro s ty acc rest h; unfold woL; exact hen _ _ _ h
    | succ q ih =>
      intro s ty acc rest h
      cases rest with
      | nil => unfold woL; exact hen _ _ _ h
      | cons c r =>
        unfold woL
        split
        · exact ih { s with mEsc := false } _ _ _ h
        · split
          · exact ih { s with mEsc := true } _ _ _ h
          · split
            · exact ih { emitN s acc ty with mErr := true } _ _ _ (hen s acc ty h)
            · split
              · split
                · exact ih { emit s (.out (acc ++ [10]) ty) with mErr := false } _ _ _ (hem s _ _ h)
                · exact ih { emit s (.out acc ty) with mErr := false } _ _ _ (hem s _ _ h)
              · exact ih s _ _ _ h
  exact key _ _ _ _ _ h

/-- The law of FnFailedBuild. -/
theorem fb_law (ps : List (List UInt8)) (f : List UInt8) : ∃ es e, convF ps 2 f true = es ++ [e] ∧ (∀ x ∈ es, x.fb = []) ∧ e.fb = f := by
  have h0 : NFb (ps.foldl inW startF).2 := NFb.fold ps startF ⟨fun e he => by rw [startF_evs, List.mem_singleton] at he; rw [he]; rfl, rfl⟩
  obtain ⟨y, hy⟩ : ∃ y, y = ps.foldl inW startF := ⟨_, rfl⟩
  rw [← hy] at h0
  have hr : (failF (exitF y 2) f).2.result = tfail := by
    rw [failF_result]
    exact (exitF_result y 2 (.inr rfl)).2.1 rfl
  have hev : (failF (exitF y 2) f).2.evs = y.2.evs := by rw [failF_evs, exitF_evs]
  have hf : (failF (exitF y 2) f).2.fb = f := by
    unfold failF
    dsimp only
    split
    · rename_i hf0
      rw [hf0]
      unfold exitF
      dsimp only
      rw [if_neg (by decide), if_pos rfl]
      exact h0.2
    · rfl
  unfold convF
  dsimp only
  rw [if_pos rfl, ← hy]
  obtain ⟨x, hx⟩ : ∃ x, x = failF (exitF y 2) f := ⟨_, rfl⟩
  rw [← hx] at hr hev hf ⊢
  clear hx
  have hk : ∀ e ∈ (outFl (flushF outW x.1 x.2).2).evs, e.fb = [] := by
    have hI : ∀ e ∈ x.2.evs, e.fb = [] := by rw [hev]; exact h0.1
    have key : ∀ (s : CS), (∀ e ∈ s.evs, e.fb = []) → ∀ l, ∀ e ∈ (outW s l).evs, e.fb = [] := fun s hs l => by
      have := writeF_keep (I := fun s : CS => ∀ e ∈ s.evs, e.fb = []) (L := woF) (P := woF) (fun s l h => evs_woF s l h) (fun s l h => evs_woF s l h) 1024 l.length (s.out, s) l hs
      exact this
    have h1 := flushF_keep (I := fun s : CS => ∀ e ∈ s.evs, e.fb = []) (P := outW) (fun s l h => key s h l) (b := x.1) (s := x.2) hI
    exact flushF_keep (I := fun s : CS => ∀ e ∈ s.evs, e.fb = []) (P := woF) (fun s l h => evs_woF s l h) (b := (flushF outW x.1 x.2).2.out) (s := (flushF outW x.1 x.2).2) h1
  obtain ⟨s, hs1, hs2⟩ := closeF_last (x := x) (by rw [hr]; decide)
  have hsk : s.evs = (outFl (flushF outW x.1 x.2).2).evs := by
    have h3 := hs2
    unfold closeF at h3
    dsimp only at h3
    rw [if_neg (by
      have hkk : Kept x.2 (outFl (flushF outW x.1 x.2).2) := (flushF_keep (I := Kept x.2) (fun a y h => h.trans (outW_kept a y)) (Kept.refl _)).trans (outFl_kept _)
      rw [hkk.result, hr]; decide)] at h3
    unfold emit at h3
    dsimp only at h3
    exact (List.append_inj_left' h3 rfl).symm
  refine ⟨s.evs, _, hs2, by rw [hsk]; exact hk, ?_⟩
  dsimp only
  rw [if_pos hr, hf]

/-- The law of FnWaits. -/
theorem waits_law (ps : List (List UInt8)) (exit : Int) (h : exit = 1 ∨ exit = 2) : ∃ r, r ≠ [] ∧ convF ps exit [] true = convF ps exit [] false ++ r := by
  have hr := exitF_result (ps.foldl inW startF) exit h
  have hne : (failF (exitF (ps.foldl inW startF) exit) []).2.result ≠ [] := by rw [failF_result]; exact hr.1
  obtain ⟨s, hk, he⟩ := closeF_last hne
  obtain ⟨r, hr⟩ := hk.evs
  unfold convF
  dsimp only
  rw [if_pos rfl, if_neg (by simp), he, ← hr]
  exact ⟨_, by simp, List.append_assoc _ _ _⟩

end Go.Proofs.YtdljobmhnnegiaaDoor

/- spec.Story (function 30): the text and the events of tests. -/
namespace Go.Proofs.YtdljobmhnnegiaaDoor
open Go.RowKit

theorem info62 : (Tryd.prog.info? 62).map (fun i => (i.zero, i.size, i.bytes)) = some (some (.agg #[.string ⟨#[]⟩, .string ⟨#[]⟩, .string ⟨#[]⟩, .string ⟨#[]⟩]), 4, 64) := by kernel_rfl
/-- The cells of an event of the reference. -/
def sCells (e : Ev) : List Value := [.string (S e.action), .string (S e.test), .string (S e.output), .string (S e.otype)]
def rowE (es : List Ev) : List Value := (es.map sCells).flatten
theorem rowE_app (a b : List Ev) : rowE (a ++ b) = rowE a ++ rowE b := by unfold rowE; simp
theorem rowE_len (es : List Ev) : (rowE es).length = es.length * 4 := by
  induction es with
  | nil => rfl
  | cons e es ih => unfold rowE at ih ⊢; rw [List.map_cons, List.flatten_cons, List.length_append, ih]; simp [sCells]; omega
/-- Events of the reference, in a row of their own. -/
abbrev ER (H : Nat) (w : World) (v : Value) (es : List Ev) : Prop := w.ownsRow H 62 4 v es.length (rowE es)
theorem eq_S {x : ByteArray} {l : List UInt8} (h : x.data.toList = l) : x = S l := by subst h; rfl

/-- Events in their row, beside a block that stays as it is. -/
structure SB (H b : Nat) (O : Obj) (w0 w : World) (v : Value) (es : List Ev) : Prop where
  below : Below H w0 w
  row : ER H w v es
  blk : w.heap[b]? = some O
  ne : v.ownBlock ≠ some b
  hb : H ≤ b
theorem SB.lt {H b : Nat} {O : Obj} {w0 w : World} {v : Value} {es : List Ev} (h : SB H b O w0 w v es) : b < w.heap.size := by
  rcases Nat.lt_or_ge b w.heap.size with h1 | h1
  · exact h1
  · have := h.blk; rw [Array.getElem?_eq_none h1] at this; cases this
theorem SB.under {H b : Nat} {O : Obj} {w0 w w' : World} {v : Value} {es : List Ev} (h : SB H b O w0 w v es) (hb : Below w.heap.size w w') : SB H b O w0 w' v es :=
  ⟨h.below.trans (hb.mono (Nat.le_of_lt (Nat.lt_of_le_of_lt h.hb h.lt))), ownsRow_same h.row (fun q hq => hb.block q (h.row.lt q hq).2), (hb.block b h.lt).trans h.blk, h.ne, h.hb⟩
theorem SB.alloc {H b : Nat} {O : Obj} {w0 w : World} {v : Value} {es : List Ev} (h : SB H b O w0 w v es) (o : Obj) : SB H b O w0 (w.alloc o) v es := h.under ((Below.refl _ w).alloc (Nat.le_refl _) o)
theorem SB.drew {H b : Nat} {O : Obj} {w0 w : World} {v : Value} {es : List Ev} (h : SB H b O w0 w v es) : SB H b O w0 w.drew v es := h.under (Below.refl _ w).drew
theorem SB.new {H : Nat} {w0 w : World} {v : Value} {es : List Ev} (hb : Below H w0 w) (hr : ER H w v es) (hH : H ≤ w.heap.size) (O : Obj) : SB H w.heap.size O w0 (w.alloc O) v es :=
  ⟨hb.alloc hH O, hr.alloc O, heap_alloc_new _ _, fun he => by have := (hr.lt _ he).2; omega, hH⟩
theorem SB.grown {H b : Nat} {O : Obj} {w0 w w3 : World} {v : Value} {es es' : List Ev} (h : SB H b O w0 w v es) {g c m : Nat} {news : List Value}
    (hown : w3.ownsRow H 62 4 (.slice (some ⟨g, 0, none⟩) (es.length + m) c) (es.length + m) (rowE es ++ news)) (hgrow : w.grownBy w3 v.ownBlock) (hat : v.ownBlock = some g ∨ g = w.heap.size)
    (hes : news = rowE es') (hm : es'.length = m) : SB H b O w0 w3 (.slice (some ⟨g, 0, none⟩) (es.length + m) c) (es ++ es') := by
  subst hes hm
  refine ⟨h.below.grown hgrow (Nat.le_of_lt (Nat.lt_of_le_of_lt h.hb h.lt)) (fun k hk => (h.row.lt k hk).1), ?_, (hgrow.block b h.lt (fun he => h.ne he.symm)).trans h.blk, ?_, h.hb⟩
  · show w3.ownsRow H 62 4 _ (es ++ es').length (rowE (es ++ es'))
    rw [rowE_app, List.length_append]; exact hown
  · intro he
    have he' : g = b := by simpa [Value.ownBlock] using he
    rcases hat with h1 | h1
    · exact h.ne (by rw [h1, he'])
    · have := h.lt; omega
theorem SB.row' {H b : Nat} {O : Obj} {w0 w : World} {es es' : List Ev} {g m c : Nat} (h : SB H b O w0 w (.slice (some ⟨g, 0, none⟩) (es.length + m) c) (es ++ es')) : ER H w (.slice (some ⟨g, 0, none⟩) (es.length + m) c) (es ++ es') := h.row
theorem SB.len {H b : Nat} {O : Obj} {w0 w : World} {v : Value} {es : List Ev} (_h : SB H b O w0 w v es) {n : Nat} (hn : n = es.length) : es.length = n := hn.symm

theorem one4 (a b c d : ByteArray) : ∀ u ∈ ([.string a, .string b, .string c, .string d] : List Value), u.oneCell' = true := by
  intro u hu
  simp only [List.mem_cons, List.not_mem_nil, or_false] at hu
  rcases hu with rfl | rfl | rfl | rfl <;> rfl
theorem one8 (a b c d e f g h : ByteArray) : ∀ u ∈ ([.string a, .string b, .string c, .string d, .string e, .string f, .string g, .string h] : List Value), u.oneCell' = true := by
  intro u hu
  simp only [List.mem_cons, List.not_mem_nil, or_false] at hu
  rcases hu with rfl | rfl | rfl | rfl | rfl | rfl | rfl | rfl <;> rfl

def StoryPost (ts : List TT) (w : World) (e : Ending) (w' : World) : Prop := ∃ v, e = .returned (.tuple #[.string (S (storyL ts).flatten), v]) ∧ (storyL ts).flatten.length ≤ 70000 ∧ Below w.heap.size w w' ∧ ER w.heap.size w' v (storyE ts)

set_option maxRecDepth 100000 in
set_option maxHeartbeats 40000000 in
theorem story_any (v : Value) (ts : List TT) (w : World) (h : TSC w v ts) (hn : ts.length ≤ 20) (hp : ∀ t ∈ ts, ProperT t) : Calls Tryd.prog 30 #[v] w (StoryPost ts w) := by
  obtain ⟨p, cap, rfl, hc, hel⟩ := h
  have HEL := Lib.hid hel
  have HP := Lib.hid hp
  obtain ⟨N, hN⟩ : ∃ N, N = ts.length := ⟨_, rfl⟩
  have HN := Lib.hid hN
  rw [← hN] at hc hn ⊢
  clear hel hN hp
  obtain ⟨H, hH⟩ : ∃ H, H = w.heap.size := ⟨_, rfl⟩
  have HHH := Lib.hid hH
  clear hH
  obtain ⟨i62, hi, hz0, hz1, hz2⟩ := info_parts info62
  go_enter Tryd.func30, Tryd.ntmps30
  go_wp2_with fail
  go_loopw [2, 3, 4, 15] (fun v2 v3 v4 v15 wr => ∃ (i : Nat) (sa : ByteArray) (vo : Value) (es : List Ev), v15 = .int .i64 i ∧ v2 = .string sa ∧ vo = v3 ∧ i ≤ N ∧ v4 = .int .i64 (lastK (ts.take i)) ∧ sa.size ≤ i * 3000 ∧ es.length ≤ i * 30 + 1 ∧
      Hid (sa.data.toList = ((ts.take i).flatMap linesT).flatten) ∧ Hid (es = [Ev.of tstart []] ++ (ts.take i).flatMap fun t => evT t ++ [toldE t]) ∧ Hid (Below H w wr) ∧ Hid (ER H wr vo es)) (fun _ _ _ v15 _ => N - (intOf v15).toNat)
  case atStart =>
    refine ⟨0, _, _, [Ev.of tstart []], rfl, rfl, rfl, Nat.zero_le _, rfl, by decide, by simp, rfl, rfl, ?_, ?_⟩
    · exact (Below.refl H w).alloc (Nat.le_of_eq HHH.out) _
    · exact ⟨rfl, .inr ⟨w.heap.size, 1, _, rfl, Nat.le_of_eq HHH.out, heap_alloc_new _ _, Nat.le_refl _, by unfold maxLen; omega, rfl, rfl⟩⟩
  case round =>
    obtain ⟨i, sa, vo, es, rfl, rfl, rfl, hin, rfl, hsa, hes, HSA, HES, HBr, HER⟩ := hrel
    by_cases hlt : i < N
    · have hil : i < ts.length := by have := HN.out; omega
      obtain ⟨g, hpg, h0, h1, lv, h2, hsc⟩ := HEL.out i hil
      subst hpg
      have hpt := HP.out _ (List.getElem_mem hil)
      obtain ⟨t, ht⟩ : ∃ t, t = ts[i] := ⟨_, rfl⟩
      rw [← ht] at h0 h1 hsc hpt
      have HT := Lib.hid ht
      have hkind := hpt.kind
      have hnl := hpt.len
      have HPT := Lib.hid hpt
      have HSC := Lib.hid hsc
      obtain ⟨p2, c2, rfl, hLc, hsel⟩ := hsc
      have HSEL := Lib.hid hsel
      obtain ⟨L, hL⟩ : ∃ L, L = t.lines.length := ⟨_, rfl⟩
      have hL20 : L ≤ 20 := by rw [hL]; exact hpt.few
      rw [← hL] at h2 hLc HSC
      have HLL := Lib.hid hL
      have hbw : Below w.heap.size w wr := by rw [← HHH.out]; exact HBr.out
      have d0 := cellB hbw h0
      have d1 := cellB hbw h1
      have d2 := cellB hbw h2
      have hH : H ≤ wr.heap.size := by rw [HHH.out]; exact hbw.size
      clear h0 h1 h2 hpt hL ht hbw hsel
      obtain ⟨nm, hnm⟩ : ∃ nm, nm = S t.name := ⟨_, rfl⟩
      have hns : nm.size ≤ 50 := by rw [hnm, S_size]; exact hnl
      have HNM : Hid (nm = S t.name) := hnm
      rw [← hnm] at d0
      obtain ⟨k, hk⟩ : ∃ k, k = t.kind := ⟨_, rfl⟩
      rw [← hk] at d1 hkind
      have HK := Lib.hid hk
      clear hnm hk
      go_wp2_with fail
      obtain ⟨b, hbb⟩ : ∃ b, b = wr.heap.size := ⟨_, rfl⟩
      obtain ⟨O, hO⟩ : ∃ O, O = Obj.cells #[.string nm, .int .i64 k, .slice p2 L c2] 36 := ⟨_, rfl⟩
      have HO := Lib.hid hO
      rw [← hO, ← hbb]
      clear hO
      have HSB0 : Hid (SB H b O w (wr.alloc O) vo es) := by rw [hbb]; exact SB.new HBr.out HER.out hH O
      have HBB := Lib.hid hbb
      clear hbb
      have HCELL : Hid (∀ w' : World, w'.heap[b]? = some O → w'.cell? ⟨b, 0, none⟩ = some (.string nm) ∧ w'.cell? ⟨b, 1, none⟩ = some (.int .i64 k) ∧ w'.cell? ⟨b, 2, none⟩ = some (.slice p2 L c2)) := by
        intro w' hb
        rw [HO.out] at hb
        simp only [World.cell?, hb]
        exact ⟨rfl, rfl, rfl⟩
      have hel4 : (S (endedL k)).size = 4 := by rw [S_size]; exact ended_short k
      have e1 : ¬ 9223372036854775807 < 10 + nm.size := by omega
      have e2 : ¬ 9223372036854775807 < 10 + nm.size + 1 := by omega
      have e3 : ¬ 9223372036854775807 < 4 + (S (endedL k)).size := by omega
      have e3b : ¬ 9223372036854775807 < 4 + (S (endedL k)).size + 2 := by omega
      have e4 : ¬ 9223372036854775807 < 4 + (S (endedL k)).size + 2 + nm.size := by omega
      have e5 : ¬ 9223372036854775807 < 10 + nm.size + 9 := by omega
      have hc1 := (HCELL.out _ HSB0.out.blk).1
      have hc2 := (HCELL.out _ HSB0.out.blk).2.1
      go_region_held3 (fun w' => w'.cell? ⟨b, 0, none⟩ = some (.string nm) ∧ w'.cell? ⟨b, 1, none⟩ = some (.int .i64 k)) (first | go_keep | exact ⟨(HCELL.out _ (HSB0.out.drew.under hb1).blk).1, (HCELL.out _ (HSB0.out.drew.under hb1).blk).2.1⟩) ((refine (ended_any k hkind _).mono ?_; rintro e w1 ⟨rfl, hb1⟩))
      have HSB1 : Hid (SB H b O w w1 vo es) := HSB0.out.drew.under hb1
      clear hb1 HSB0 hc1 hc2 e1 e2 e3 e3b e4 e5
      generalize hbg : ((⟨#[61, 61, 61, 32, 82, 85, 78, 32, 32, 32]⟩ : ByteArray) ++ nm ++ (⟨#[10]⟩ : ByteArray)) = bg
      generalize hed : ((⟨#[45, 45, 45, 32]⟩ : ByteArray) ++ S (endedL k) ++ (⟨#[58, 32]⟩ : ByteArray) ++ nm ++ (⟨#[32, 40, 48, 46, 48, 48, 115, 41, 10]⟩ : ByteArray)) = ed
      have HBG : Hid (bg = S (beginL t ++ [10])) := eq_S (by rw [← hbg, HNM.out]; simp [beginL, tRun])
      have HED : Hid (ed = S (endL t ++ [10])) := eq_S (by rw [← hed, HNM.out, HK.out]; simp [endL, tTime])
      have hbgs : bg.size ≤ 69 := by rw [← hbg, ByteArray.size_append, ByteArray.size_append]; show 10 + nm.size + 1 ≤ _; omega
      have heds : ed.size ≤ 69 := by rw [← hed, ByteArray.size_append, ByteArray.size_append, ByteArray.size_append, ByteArray.size_append, hel4]; show 4 + 4 + 2 + nm.size + 9 ≤ _; omega
      clear hbg hed hel4
      have a1 : ¬ 9223372036854775807 < 1 + bg.size := by omega
      have a2 : ¬ 9223372036854775807 < sa.size + (1 + bg.size) := by omega
      have hc0 := (HCELL.out _ HSB1.out.blk).1
      go_wp2_with (at_builtin; refine wpList_append_lies _ rfl (.tmp 36) (.tmp 44) 52 rfl H 62 i62 _ 4 64 Tryd.underlying52 hi hz0 hz1 hz2 rfl (by decide) _ es.length (rowE es) rfl (HSB1.out.alloc _).row ⟨w1.heap.size, 0, none⟩ 2 2 [.string ⟨#[114, 117, 110]⟩, .string nm, .string ⟨#[]⟩, .string ⟨#[]⟩, .string ⟨#[111, 117, 116, 112, 117, 116]⟩, .string nm, .string bg, .string ⟨#[102, 114, 97, 109, 101]⟩] rfl rfl (World.news_of_block (cs := #[.string ⟨#[114, 117, 110]⟩, .string nm, .string ⟨#[]⟩, .string ⟨#[]⟩, .string ⟨#[111, 117, 116, 112, 117, 116]⟩, .string nm, .string bg, .string ⟨#[102, 114, 97, 109, 101]⟩]) (heap_alloc_new _ _)) (one8 _ _ _ _ _ _ _ _) (by decide) (by unfold maxLen; omega) (by omega) (by rw [size_alloc]; have := HSB1.out.hb; have := HSB1.out.lt; omega) _ rfl ?_; intro g2 q2 w2 hown hgrow hat _; have HSB2 : Hid (SB H b O w w2 (.slice (some ⟨g2, 0, none⟩) (es.length + 2) q2) (es ++ [Ev.of trun t.name, Ev.outT (beginL t ++ [10]) tframe t.name])) := (HSB1.out.alloc _).grown hown hgrow hat (by rw [HNM.out, HBG.out]; rfl) rfl; have hc2 := (HCELL.out _ HSB2.out.blk).2.2; clear hown hgrow hat)
      clear hc0 a1 a2
      generalize hs1 : sa ++ ((⟨#[22]⟩ : ByteArray) ++ bg) = s1
      have HS1 : Hid (s1.data.toList = sa.data.toList ++ (22 :: (beginL t ++ [10]))) := by show _ = _; rw [← hs1, HBG.out]; simp
      have hs1s : s1.size ≤ sa.size + 70 := by rw [← hs1, ByteArray.size_append, ByteArray.size_append]; show sa.size + (1 + bg.size) ≤ _; omega
      clear hs1
      go_loopw [2, 3, 49] (fun v2 v3 v49 wr => ∃ (j : Nat) (s2 : ByteArray) (vj : Value) (ej : List Ev), v49 = .int .i64 j ∧ v2 = .string s2 ∧ vj = v3 ∧ j ≤ L ∧ s2.size ≤ i * 3000 + 70 + j * 110 ∧ ej.length ≤ es.length + 2 + j ∧
          Hid (s2.data.toList = sa.data.toList ++ (22 :: (beginL t ++ [10])) ++ ((t.lines.take j).map (· ++ [10])).flatten) ∧ Hid (ej = es ++ [Ev.of trun t.name, Ev.outT (beginL t ++ [10]) tframe t.name] ++ (t.lines.take j).map fun l => Ev.outT (l ++ [10]) [] t.name) ∧ Hid (SB H b O w wr vj ej)) (fun _ _ v49 _ => L - (intOf v49).toNat)
      case atStart =>
        exact ⟨0, s1, _, _, rfl, rfl, rfl, Nat.zero_le _, by omega, by rw [List.length_append]; exact Nat.le_refl _, by show _ = _; rw [HS1.out]; simp, by show _ = _; simp, HSB2.out⟩
      case round =>
        obtain ⟨j, s2, vj, ej, rfl, rfl, rfl, hjL, hs2, hej, HS2, HEJ, HSBj⟩ := hrel
        by_cases hltL : j < L
        · have hjl : j < t.lines.length := by have := HLL.out; omega
          obtain ⟨gl, ol, hpl, hcl⟩ := HSEL.out j hjl
          subst hpl
          have hbj : Below w.heap.size w wr := by rw [← HHH.out]; exact HSBj.out.below
          have hcl' := cellB hbj hcl
          have hlp := HPT.out.lines _ (List.getElem_mem hjl)
          obtain ⟨x, hx⟩ : ∃ x, x = S t.lines[j] := ⟨_, rfl⟩
          have hxs : x.size ≤ 100 := by rw [hx, S_size]; exact hlp.2.2
          rw [← hx] at hcl'
          have HX := Lib.hid hx
          have hc0 := (HCELL.out _ HSBj.out.blk).1
          have a1 : ¬ 9223372036854775807 < x.size + 1 := by omega
          have a2 : ¬ 9223372036854775807 < s2.size + (x.size + 1) := by omega
          clear hcl hbj hlp hx
          go_wp2_with (at_builtin; refine wpList_append_lies _ rfl (.tmp 57) (.tmp 63) 52 rfl H 62 i62 _ 4 64 Tryd.underlying52 hi hz0 hz1 hz2 rfl (by decide) _ ej.length (rowE ej) rfl (HSBj.out.alloc _).row ⟨wr.heap.size, 0, none⟩ 1 1 [.string ⟨#[111, 117, 116, 112, 117, 116]⟩, .string nm, .string (x ++ ⟨#[10]⟩), .string ⟨#[]⟩] rfl rfl (World.news_of_block (cs := #[.string ⟨#[111, 117, 116, 112, 117, 116]⟩, .string nm, .string (x ++ ⟨#[10]⟩), .string ⟨#[]⟩]) (heap_alloc_new _ _)) (one4 _ _ _ _) (by decide) (by unfold maxLen; omega) (by omega) (by rw [size_alloc]; have := HSBj.out.hb; have := HSBj.out.lt; omega) _ rfl ?_; intro g3 q3 w3 hown hgrow hat _)
          have HSB3 : Hid (SB H b O w w3 (.slice (some ⟨g3, 0, none⟩) (ej.length + 1) q3) (ej ++ [Ev.outT (t.lines[j] ++ [10]) [] t.name])) := (HSBj.out.alloc _).grown hown hgrow hat (by
            have hxe : x ++ (⟨#[10]⟩ : ByteArray) = S (t.lines[j] ++ [10]) := eq_S (by rw [HX.out]; simp)
            rw [HNM.out, hxe]; rfl) rfl
          clear hown hgrow hat
          go_roundw
          case rel =>
            refine ⟨j + 1, _, _, ej ++ [Ev.outT (t.lines[j] ++ [10]) [] t.name], by go_num, rfl, rfl, by omega, ?_, by simp; omega, ?_, ?_, HSB3.out⟩
            · rw [ByteArray.size_append, ByteArray.size_append]; show s2.size + (x.size + 1) ≤ _; omega
            · show _ = _
              rw [List.take_succ_eq_append_getElem hjl, List.map_append, List.flatten_append, ← List.append_assoc, ← HS2.out, HX.out]
              simp
            · show _ = _
              rw [List.take_succ_eq_append_getElem hjl, List.map_append, ← List.append_assoc, ← HEJ.out]
              rfl
          case measure => simp [intOf]; omega
        · have hjL' : j = L := by omega
          have HS3 : Hid (s2.data.toList = sa.data.toList ++ (22 :: (beginL t ++ [10])) ++ (t.lines.map (· ++ [10])).flatten) := by
            have := HS2.out
            rwa [List.take_of_length_le (by have := HLL.out; omega)] at this
          have HE3 : Hid (ej = es ++ [Ev.of trun t.name, Ev.outT (beginL t ++ [10]) tframe t.name] ++ t.lines.map fun l => Ev.outT (l ++ [10]) [] t.name) := by
            have := HEJ.out
            rwa [List.take_of_length_le (by have := HLL.out; omega)] at this
          have a1 : ¬ 9223372036854775807 < 1 + ed.size := by omega
          have a2 : ¬ 9223372036854775807 < s2.size + (1 + ed.size) := by omega
          clear HS2 HEJ
          have hc0 := (HCELL.out _ HSBj.out.blk).1
          have hc1 := (HCELL.out _ HSBj.out.blk).2.1
          go_wp2_with fail
          generalize hs3 : s2 ++ ((⟨#[22]⟩ : ByteArray) ++ ed) = s3
          have HS4 : Hid (s3.data.toList = sa.data.toList ++ (linesT t).flatten) := by
            show _ = _
            rw [← hs3, HED.out]
            simp only [ByteArray.data_append, Array.toList_append, HS3.out]
            simp [linesT]
          have hs3s : s3.size ≤ (i + 1) * 3000 := by rw [← hs3, ByteArray.size_append, ByteArray.size_append]; show s2.size + (1 + ed.size) ≤ _; omega
          clear hs3 a1 a2
          go_region_held3 (fun w' => w'.cell? ⟨b, 0, none⟩ = some (.string nm) ∧ w'.cell? ⟨b, 1, none⟩ = some (.int .i64 k)) (first | go_keep | exact ⟨(HCELL.out _ HSB5.out.blk).1, (HCELL.out _ HSB5.out.blk).2.1⟩ | exact ⟨(HCELL.out _ (HSBj.out.drew.under hb4).blk).1, (HCELL.out _ (HSBj.out.drew.under hb4).blk).2.1⟩) ((first | (refine (told_any k hkind _).mono ?_; rintro e w4 ⟨rfl, hb4⟩) | (refine step_append_lies _ rfl (.tmp 70) (.tmp 81) 52 rfl H 62 i62 _ 4 64 Tryd.underlying52 hi hz0 hz1 hz2 rfl (by decide) vj ej.length (rowE ej) (by rfl) (by first | exact ((HSBj.out.drew.under hb4).alloc _).row) ⟨w4.heap.size, 0, none⟩ 2 2 [.string ⟨#[111, 117, 116, 112, 117, 116]⟩, .string nm, .string ed, .string ⟨#[102, 114, 97, 109, 101]⟩, .string (S (toldL k)), .string nm, .string ⟨#[]⟩, .string ⟨#[]⟩] (by rfl) rfl (World.news_of_block (cs := #[.string ⟨#[111, 117, 116, 112, 117, 116]⟩, .string nm, .string ed, .string ⟨#[102, 114, 97, 109, 101]⟩, .string (S (toldL k)), .string nm, .string ⟨#[]⟩, .string ⟨#[]⟩]) (heap_alloc_new _ _)) (one8 _ _ _ _ _ _ _ _) (by decide) (by unfold maxLen; omega) (by omega) (by rw [size_alloc]; have := (HSBj.out.drew.under hb4).hb; have := (HSBj.out.drew.under hb4).lt; omega) _ rfl ?_; intro g5 q5 w5 hown5 hgrow5 hat5 _; have HSB5 : Hid (SB H b O w w5 (.slice (some ⟨g5, 0, none⟩) (ej.length + 2) q5) (ej ++ [Ev.outT (endL t ++ [10]) tframe t.name, toldE t])) := ((HSBj.out.drew.under hb4).alloc _).grown hown5 hgrow5 hat5 (by rw [HNM.out, HED.out, HK.out]; rfl) rfl; clear hown5 hgrow5 hat5)))
          have hc5 := (HCELL.out _ HSB5.out.blk).2.1
          have HES5 : Hid (ej ++ [Ev.outT (endL t ++ [10]) tframe t.name, toldE t] = [Ev.of tstart []] ++ (ts.take (i + 1)).flatMap fun t => evT t ++ [toldE t]) := by
            show _ = _
            rw [List.take_succ_eq_append_getElem hil, List.flatMap_append, ← List.append_assoc, ← HES.out, HE3.out, ← HT.out]
            simp [evT]
          have HSA5 : Hid (s3.data.toList = ((ts.take (i + 1)).flatMap linesT).flatten) := by
            show _ = _
            rw [List.take_succ_eq_append_getElem hil, List.flatMap_append, List.flatten_append, ← HSA.out, HS4.out, ← HT.out]
            simp
          by_cases k1 : k = 1
          · have b1 : ((k : Int) == 1) = true := by simp; omega
            have HLK : Hid ((1 : Int) = lastK (ts.take (i + 1))) := by
              show _ = _
              unfold lastK
              rw [if_pos (List.any_eq_true.2 ⟨ts[i], by rw [List.take_succ_eq_append_getElem hil]; exact List.mem_append_right _ (List.mem_singleton.2 rfl), by rw [← HT.out, ← HK.out, k1]; rfl⟩)]
              rfl
            go_wp2_with fail
            go_roundw
            case rel =>
              exact ⟨i + 1, s3, _, _, by go_num, rfl, rfl, by omega, by rw [HLK.out], by omega, by simp; omega, HSA5.out, HES5.out, HSB5.out.below, HSB5.out.row'⟩
            case measure => simp [intOf]; omega
          · have b1 : ((k : Int) == 1) = false := by simp; omega
            have HLK : Hid (lastK (ts.take i) = lastK (ts.take (i + 1))) := by
              show _ = _
              unfold lastK
              have : [ts[i]].any (fun t => t.kind == 1) = false := by rw [← HT.out]; have := HK.out; simp; omega
              rw [List.take_succ_eq_append_getElem hil, List.any_append, this, Bool.or_false]
            go_wp2_with fail
            go_roundw
            case rel =>
              exact ⟨i + 1, s3, _, _, by go_num, rfl, rfl, by omega, by rw [HLK.out], by omega, by simp; omega, HSA5.out, HES5.out, HSB5.out.below, HSB5.out.row'⟩
            case measure => simp [intOf]; omega
    · have hiN : i = N := by omega
      have HTK : Hid (ts.take i = ts) := List.take_of_length_le (by have := HN.out; omega)
      have HSA2 : Hid (sa.data.toList = (ts.flatMap linesT).flatten) := by have := HSA.out; rwa [HTK.out] at this
      have HES2 : Hid (es = [Ev.of tstart []] ++ ts.flatMap fun t => evT t ++ [toldE t]) := by have := HES.out; rwa [HTK.out] at this
      rw [HTK.out]
      obtain ⟨kk, hkk⟩ : ∃ kk, kk = lastK ts := ⟨_, rfl⟩
      rw [← hkk]
      have hk1 : kk ≤ 1 := by rw [hkk]; exact lastK_le ts
      have hk2 : kk ≤ 2 := by omega
      have HKK := Lib.hid hkk
      have hH : H ≤ wr.heap.size := by rw [HHH.out]; have := HBr.out.size; exact this
      clear hkk HSA HES
      have hel4 : (S (endedL kk)).size = 4 := by rw [S_size]; exact ended_short kk
      have a1 : ¬ 9223372036854775807 < 1 + (S (endedL kk)).size := by omega
      have a2 : ¬ 9223372036854775807 < 1 + (S (endedL kk)).size + 1 := by omega
      have a3 : ¬ 9223372036854775807 < sa.size + (1 + (S (endedL kk)).size + 1) := by omega
      have a4 : ¬ 9223372036854775807 < (S (endedL kk)).size + 1 := by omega
      go_wp2_with fail
      refine (ended_any kk hk2 _).mono ?_
      rintro e w4 ⟨rfl, hb4⟩
      have HB4 : Hid (Below H w w4) := HBr.out.trans (hb4.mono hH)
      have HR4 : Hid (ER H w4 vo es) := ownsRow_same HER.out (fun q hq => hb4.block q (HER.out.lt q hq).2)
      have hH4 : H ≤ w4.heap.size := Nat.le_trans hH hb4.size
      clear hb4
      dsimp only
      go_wp2_with fail
      refine (ended_any kk hk2 _).mono ?_
      rintro e w5 ⟨rfl, hb5⟩
      have HB5 : Hid (Below H w w5) := HB4.out.trans (hb5.mono hH4)
      have HR5 : Hid (ER H w5 vo es) := ownsRow_same HR4.out (fun q hq => hb5.block q (HR4.out.lt q hq).2)
      have hH5 : H ≤ w5.heap.size := Nat.le_trans hH4 hb5.size
      clear hb5
      dsimp only
      go_wp2_with fail
      refine (told_any kk hk2 _).mono ?_
      rintro e w6 ⟨rfl, hb6⟩
      have HB6 : Hid (Below H w w6) := HB5.out.trans (hb6.mono hH5)
      have HR6 : Hid (ER H w6 vo es) := ownsRow_same HR5.out (fun q hq => hb6.block q (HR5.out.lt q hq).2)
      have hH6 : H ≤ w6.heap.size := Nat.le_trans hH5 hb6.size
      clear hb6
      dsimp only
      go_wp2_with (at_builtin; refine wpList_append_lies _ rfl (.tmp 94) (.tmp 102) 52 rfl H 62 i62 _ 4 64 Tryd.underlying52 hi hz0 hz1 hz2 rfl (by decide) _ es.length (rowE es) rfl (HR6.out.alloc _) ⟨w6.heap.size, 0, none⟩ 2 2 [.string ⟨#[111, 117, 116, 112, 117, 116]⟩, .string ⟨#[]⟩, .string (S (endedL kk) ++ ⟨#[10]⟩), .string ⟨#[102, 114, 97, 109, 101]⟩, .string (S (toldL kk)), .string ⟨#[]⟩, .string ⟨#[]⟩, .string ⟨#[]⟩] rfl rfl (World.news_of_block (cs := #[.string ⟨#[111, 117, 116, 112, 117, 116]⟩, .string ⟨#[]⟩, .string (S (endedL kk) ++ ⟨#[10]⟩), .string ⟨#[102, 114, 97, 109, 101]⟩, .string (S (toldL kk)), .string ⟨#[]⟩, .string ⟨#[]⟩, .string ⟨#[]⟩]) (heap_alloc_new _ _)) (one8 _ _ _ _ _ _ _ _) (by decide) (by unfold maxLen; omega) (by omega) (by rw [size_alloc]; omega) _ rfl ?_; intro g7 q7 w7 hown hgrow hat _)
      refine bodyPost_ret (results_tmp2 rfl _ _ _) rfl ?_
      have hte : sa ++ ((⟨#[22]⟩ : ByteArray) ++ S (endedL kk) ++ (⟨#[10]⟩ : ByteArray)) = S (storyL ts).flatten := eq_S (by
        simp only [ByteArray.data_append, Array.toList_append, HSA2.out]
        simp [storyL, ← HKK.out])
      have hxe : S (endedL kk) ++ (⟨#[10]⟩ : ByteArray) = S (endedL kk ++ [10]) := eq_S (by simp)
      refine ⟨.slice (some ⟨g7, 0, none⟩) (es.length + 2) q7, ?_, ?_, ?_, ?_⟩
      · show Ending.returned (.tuple #[.string (sa ++ ((⟨#[22]⟩ : ByteArray) ++ S (endedL kk) ++ (⟨#[10]⟩ : ByteArray))), .slice (some ⟨g7, 0, none⟩) (es.length + 2) q7]) = _
        rw [hte]
      · rw [← S_size, ← hte, ByteArray.size_append, ByteArray.size_append, ByteArray.size_append, hel4]
        show sa.size + (1 + 4 + 1) ≤ _
        omega
      · rw [← HHH.out]
        exact (HB6.out.alloc hH6 _).grown hgrow (by rw [size_alloc]; omega) (fun q hq => (HR6.out.lt q hq).1)
      · rw [← HHH.out]
        have hse : storyE ts = es ++ [Ev.outT (endedL kk ++ [10]) tframe [], Ev.of (toldL kk) []] := by rw [HES2.out, HKK.out]; rfl
        show w7.ownsRow H 62 4 _ (storyE ts).length (rowE (storyE ts))
        rw [hse, rowE_app, List.length_append]
        rw [hxe] at hown
        exact hown

end Go.Proofs.YtdljobmhnnegiaaDoor

/- How the laws' arguments that are slices of strings read. -/
namespace Go.Proofs.YtdljobmhnnegiaaDoor
open Go.RowKit Go.ChangeShapes Go.ChangeMaps Go.Deep

theorem sc_of_strs {w : World} {x : Addr} {len cap : Nat} {ss : List ByteArray} (hl : len ≤ cap) (hz : len ≤ ss.length) (hcell : ∀ i, i < ss.length → w.cell? (x.add i) = some (.string (ss.getD i ByteArray.empty))) : SC w (.slice (some x) len cap) ((ss.take len).map fun s => s.data.toList) := by
  have e : ((ss.take len).map fun s => s.data.toList).length = len := by rw [List.length_map, List.length_take]; omega
  refine ⟨some x, cap, by rw [e], by rw [e]; exact hl, fun i hi => ?_⟩
  rw [e] at hi
  have h := hcell i (by omega)
  have h0 := hcell 0 (by omega)
  obtain ⟨b, off, r⟩ := x
  cases r with
  | some r => exact absurd h0 (by simp [Addr.add, World.cell?]; split <;> simp)
  | none =>
    refine ⟨b, off, rfl, ?_⟩
    have e2 : (⟨b, off, none⟩ : Addr).add i = ⟨b, off + i, none⟩ := by unfold Addr.add; split <;> simp_all
    rw [e2] at h
    rw [h]
    simp [List.getD_eq_getElem?_getD, List.getElem?_eq_getElem (show i < ss.length by omega)]

theorem sc_of_trod {H : Type} {enc : TypeId × Value → H} {w : World} {fuel : Nat} {v : Value} {x : DataW H × List MemPlace} (h : DataW.trod enc Tryd.prog w 0 (fun _ => true) true fuel 34 [v] = some x) : ∃ ss, SC w v ss := by
  rcases open_strings Tryd.underlying34 Tryd.underlying9 (by kernel_rfl) h with ⟨hcs, _⟩ | ⟨a, len, cap, ss, hcs, _, hl, hm, hz, _, hcell, _⟩
  · obtain rfl : v = .slice none 0 0 := by simpa using hcs
    exact ⟨[], SC.nil w⟩
  · obtain rfl : v = .slice (some a) len cap := by simpa using hcs
    simp only [if_true] at hz
    exact ⟨_, sc_of_strs hl (by omega) hcell⟩

theorem ssc_of_trod {H : Type} {enc : TypeId × Value → H} {w : World} {fuel : Nat} {v : Value} {x : DataW H × List MemPlace} (h : DataW.trod enc Tryd.prog w 0 (fun _ => true) true fuel 59 [v] = some x) : ∃ lss, SSC w v lss := by
  rcases open_slice1 Tryd.underlying59 (by kernel_rfl) h with ⟨hcs, _⟩ | ⟨a, len, cap, m, n, V, D, Pl, hcs, _, hl, hm, hz, _, hx⟩
  · obtain rfl : v = .slice none 0 0 := by simpa using hcs
    exact ⟨[], SSC.nil w⟩
  · obtain rfl : v = .slice (some a) len cap := by simpa using hcs
    simp only [if_true] at hz
    subst hz
    have hch : ∀ i, ∃ ss, i < m → SC w (V i) ss := fun i => by
      by_cases hi : i < m
      · obtain ⟨ss, hs⟩ := sc_of_trod (hx i hi).2
        exact ⟨ss, fun _ => hs⟩
      · exact ⟨[], fun h => absurd h hi⟩
    obtain ⟨f, hf⟩ := Classical.axiomOfChoice hch
    have e : ((List.range len).map f).length = len := by simp
    refine ⟨(List.range len).map f, some a, m, by rw [e], by rw [e]; exact hl, fun i hi => ?_⟩
    rw [e] at hi
    have hc := (hx i (by omega)).1
    have hc0 := (hx 0 (by omega)).1
    obtain ⟨b, off, r⟩ := a
    cases r with
    | some r => exact absurd hc0 (by simp [Addr.add, World.cell?]; split <;> simp)
    | none =>
      have e2 : (⟨b, off, none⟩ : Addr).add i = ⟨b, off + i, none⟩ := by unfold Addr.add; split <;> simp_all
      rw [e2] at hc
      refine ⟨b, off, V i, rfl, hc, ?_⟩
      have hs := hf i (by omega)
      simpa using hs

end Go.Proofs.YtdljobmhnnegiaaDoor

/- The walk of FnResult (function 10). -/
namespace Go.Proofs.YtdljobmhnnegiaaDoor
open Go.RowKit

theorem exit_any (b : Bool) (w : World) : Calls Tryd.prog 31 #[.bool b] w fun e w' => e = .returned (.int .i64 (if b = true then 2 else 1)) ∧ w = w' := by
  go_enter Tryd.func31, Tryd.ntmps31
  cases b <;>
  (go_wp2
   go_ret
   exact ⟨rfl, rfl⟩)

/-- The empty list of pieces. -/
theorem pc_nil (w : World) : PC w (.slice none 0 0) [] := ⟨none, 0, rfl, Nat.le_refl _, fun i hi => by simp at hi⟩

set_option maxRecDepth 100000 in
set_option maxHeartbeats 4000000 in
theorem walk_result (a0 : Bool) (W : World) (hG : G5 W) : Calls Tryd.prog 10 #[.bool a0] W fun e W' => e = .returned (.bool true) ∧ Below W.heap.size W W' := by
  have HG := Lib.hid hG
  have HW : Hid (∀ w', Below W.heap.size W w' → Calls Tryd.prog 22 #[] w' fun e w'' => e = .returned (.bool true) ∧ Below w'.heap.size w' w'') := fun w' hb => works_any (hG.below hb)
  have HX : Hid (∀ x : Int, x = (if a0 = true then 2 else 1) → Calls Tryd.prog 23 #[.slice none 0 0, .string ⟨#[112]⟩, .int .i64 x, .string ⟨#[]⟩, .bool true] W fun e w' =>
      ∃ g c, e = .returned (.slice (some ⟨g, 0, none⟩) 2 c) ∧ 2 ≤ c ∧ w'.cell? ⟨g, 9, none⟩ = some (.string (S (if a0 = true then tfail else tpass))) ∧ w'.cell? ⟨g, 9 + 2, none⟩ = some (.string (S [])) ∧ Below W.heap.size W w') := by
    intro x hx
    have hl := result_law x (by rw [hx]; cases a0 <;> simp)
    refine (convert_any (HG.out) (pc_nil W) [112] [] x true (by decide) (by decide)).mono ?_
    intro e w' hp
    rw [hl] at hp
    obtain ⟨v, rfl, hb2, hev⟩ := hp.evs
    obtain ⟨p, c, rfl, hf⟩ := hev.form
    obtain ⟨g, rfl, hc⟩ := hf (by simp)
    obtain ⟨ov, hcell, _⟩ := hev.cell 1 (by simp)
    have h1 := hcell 0 (by omega)
    have h2 := hcell 2 (by omega)
    refine ⟨g, c, rfl, hc, ?_, h2, hb2⟩
    rw [show (9 : Nat) = 9 * 1 + 0 by rfl, h1, hx]
    cases a0 <;> rfl
  clear hG
  go_enter Tryd.func10, Tryd.ntmps10
  go_wp2_with fail
  refine (exit_any _ _).mono ?_
  rintro e w' ⟨rfl, rfl⟩
  obtain ⟨x, hx⟩ : ∃ x : Int, x = (if a0 = true then 2 else 1) := ⟨_, rfl⟩
  have HX1 := HX.out x hx
  rw [← hx]
  clear HX hx
  dsimp only
  go_wp2_with fail
  refine HX1.mono ?_
  rintro en w1 ⟨g, c, rfl, hc, h1, h2, hb⟩
  have hw := HW.out w1 hb
  have HB := Lib.hid hb
  clear hb HX1
  have t0 : ((S []).data.toList == []) = true := by decide
  cases a0 with
  | true =>
    have t1 : ((S tfail).data.toList == [102, 97, 105, 108]) = true := by decide
    simp only [if_true] at h1
    dsimp only
    go_wp2_with fail
    refine hw.mono ?_
    rintro e w2 ⟨rfl, hb2⟩
    go_wp2_with fail
    go_ret
    exact ⟨rfl, HB.out.trans (hb2.mono HB.out.size)⟩
  | false =>
    have t1 : ((S tpass).data.toList == [112, 97, 115, 115]) = true := by decide
    simp only [Bool.false_eq_true, if_false] at h1
    dsimp only
    go_wp2_with fail
    refine hw.mono ?_
    rintro e w2 ⟨rfl, hb2⟩
    go_wp2_with fail
    go_ret
    exact ⟨rfl, HB.out.trans (hb2.mono HB.out.size)⟩

end Go.Proofs.YtdljobmhnnegiaaDoor

/- The walk of FnFailedBuild (function 9). -/
namespace Go.Proofs.YtdljobmhnnegiaaDoor
open Go.RowKit

/-- Behind the tests. -/
theorem tests_call {W : World} {nv kv lv : Value} {ns : List (List UInt8)} {ks : List Int} {ls : List (List (List UInt8))} (hn : SC W nv ns) (hk : IC W kv ks) (hl : SSC W lv ls) (hf : Fit1 ns) (hk1 : ks.length ≤ 2147483647) (hl1 : Fit2 ls) :
    Calls Tryd.prog 28 #[nv, kv, lv] W (TestsPost W) :=
  tests_any nv kv lv ns ks ls W hn hk hl hf.1 hf.2 hk1 hl1.1 (fun l h => ⟨(hl1.2 l h).1, (hl1.2 l h).2⟩)
theorem fit2_nil : Fit2 [] := ⟨by simp, fun l h => by simp at h⟩

set_option maxRecDepth 100000 in
set_option maxHeartbeats 8000000 in
theorem walk_failed (nv : Value) (ns : List (List UInt8)) (kv : Value) (ks : List Int) (a2 : ByteArray) (W : World) (hn : SC W nv ns) (hk : IC W kv ks) (hG : G5 W) :
    Calls Tryd.prog 9 #[nv, kv, .string a2] W fun e W' => e = .returned (.bool true) ∧ Below W.heap.size W W' := by
  have HG := Lib.hid hG
  have HW : Hid (∀ w', Below W.heap.size W w' → Calls Tryd.prog 22 #[] w' fun e w'' => e = .returned (.bool true) ∧ Below w'.heap.size w' w'') := fun w' hb => works_any (HG.out.below hb)
  have HN0 := Lib.hid hn
  have HK0 := Lib.hid hk
  have HF1 : Hid (Calls Tryd.prog 27 #[nv] W (FitPost (Fit1 ns) W)) := fits1_any nv ns W hn
  have HT : Hid (Fit1 ns → ks.length ≤ 2147483647 → Calls Tryd.prog 28 #[nv, kv, .slice none 0 0] W (TestsPost W)) := fun h1 h2 => tests_call hn hk (SSC.nil W) h1 h2 fit2_nil
  obtain ⟨pn, cn, rfl, hcn, _⟩ := hn
  obtain ⟨pk, ck, rfl, hck, _⟩ := hk
  obtain ⟨N, hN⟩ : ∃ N, N = ns.length := ⟨_, rfl⟩
  obtain ⟨K, hK⟩ : ∃ K, K = ks.length := ⟨_, rfl⟩
  have HKL := Lib.hid hK
  rw [← hN] at hcn HF1 HT HN0 ⊢
  rw [← hK] at hck HT HK0 ⊢
  obtain ⟨fl, hfl⟩ : ∃ fl, fl = a2.data.toList := ⟨_, rfl⟩
  have hS : a2 = S fl := by rw [hfl]
  subst hS
  clear hG hN hK hfl
  go_enter Tryd.func9, Tryd.ntmps9
  go_wp2_with fail
  refine HF1.out.mono ?_
  rintro e w' ⟨b, rfl, hb, rfl⟩
  have HB1 := Lib.hid hb
  clear hb
  cases b with
  | false =>
    dsimp only
    go_wp2_with fail
    go_ret
    exact ⟨rfl, Below.refl _ _⟩
  | true =>
  by_cases hkb : (2147483647 : Int) < (K : Int)
  · dsimp only
    go_wp2_with fail
    go_ret
    exact ⟨rfl, Below.refl _ _⟩
  by_cases hfb : (2147483647 : Int) < (fl.length : Int)
  · dsimp only
    go_wp2_with fail
    go_ret
    exact ⟨rfl, Below.refl _ _⟩
  have hfb' : ¬ 2147483647 < fl.length := by omega
  have HT2 := Lib.hid (HT.out (HB1.out (by trivial)) (by omega))
  dsimp only
  go_wp2_with fail
  refine HT2.out.mono ?_
  rintro e w1 ⟨v1, b, rfl, hb1, hts⟩
  have HW1 := Lib.hid (HW.out w1 hb1)
  cases b with
  | false =>
    clear hts
    have HBB := Lib.hid hb1
    clear hb1
    dsimp only
    go_wp2_with fail
    refine HW1.out.mono ?_
    rintro e w2 ⟨rfl, hb2⟩
    go_wp2_with fail
    go_ret
    exact ⟨rfl, HBB.out.trans (hb2.mono HBB.out.size)⟩
  | true =>
  obtain ⟨ts, htsc, hlen, hpt⟩ := hts rfl
  have HTS := Lib.hid htsc
  have HPT := Lib.hid hpt
  have hff := specFailed_any v1 ts w1 htsc hlen
  have HFF := Lib.hid hff
  obtain ⟨fb, hfb2⟩ : ∃ fb, fb = ts.any fun t => t.kind == 1 := ⟨_, rfl⟩
  rw [← hfb2] at HFF
  have HBB := Lib.hid hb1
  clear hts htsc hpt hff hfb2 hb1
  dsimp only
  go_wp2_with fail
  refine HFF.out.mono ?_
  rintro e w2 ⟨rfl, hb2⟩
  have HB2 : Hid (Below W.heap.size W w2) := HBB.out.trans (hb2.mono HBB.out.size)
  have HTS2 := Lib.hid (HTS.out.below hb2)
  have HW2 := Lib.hid (HW.out w2 HB2.out)
  clear hb2
  cases fb with
  | false =>
    dsimp only
    go_wp2_with fail
    refine HW2.out.mono ?_
    rintro e w3 ⟨rfl, hb3⟩
    go_wp2_with fail
    go_ret
    exact ⟨rfl, HB2.out.trans (hb3.mono HB2.out.size)⟩
  | true =>
  dsimp only
  go_wp2_with fail
  refine (story_any v1 ts w2 HTS2.out hlen HPT.out).mono ?_
  rintro e w3 ⟨v3, rfl, htl, hb3, _⟩
  have HB3 : Hid (Below W.heap.size W w3) := HB2.out.trans (hb3.mono HB2.out.size)
  obtain ⟨sx, hsx⟩ : ∃ sx, sx = S (storyL ts).flatten := ⟨_, rfl⟩
  have hsz : sx.size ≤ 70000 := by rw [hsx, S_size]; exact htl
  rw [← hsx]
  clear hb3 htl hsx
  have hconv := fun (w : World) => run_bytes_of_string (P := Tryd.prog) w 9 23 5 sx Tryd.underlying9 Tryd.underlying23 Tryd.underlying5
  dsimp only
  go_wp2_with fail
  refine (one_callD HG.out HB3.out sx (by omega) (grownCap w3 sx.size 0 5) (grownCap_ge _ _ _ _) _ _ 2 fl true).mono ?_
  rintro e w4 ⟨evs, v4, rfl, hevs, hat, hb4⟩
  obtain ⟨es, le, hl1, hl2, hl3⟩ := fb_law [sx.data.toList] fl
  rw [← hevs] at hl1
  obtain ⟨p4, c4, rfl, hf4⟩ := hat.form
  obtain ⟨g4, rfl, hlc⟩ := hf4 (by rw [hl1]; simp)
  have HAT := Lib.hid hat
  have HB4 := Lib.hid hb4
  obtain ⟨n, hnn⟩ : ∃ n, n = evs.length := ⟨_, rfl⟩
  have hn0 : 0 < n := by rw [hnn, hl1]; simp
  have hbig : n ≤ maxLen := by rw [hnn]; exact hat.few
  have hbig2 : n ≤ 9223372036854775807 := by unfold maxLen at hbig; omega
  have HNN := Lib.hid hnn
  have HL := Lib.hid (And.intro hl1 (And.intro hl2 hl3))
  rw [← hnn] at hlc ⊢
  have HCELL : Hid (∀ w', Below w4.heap.size w4 w' → ∀ i, i < n → ∃ (e : Ev) (pv : Option Addr) (nv cv : Nat), Hid (evs[i]? = some e) ∧ CellsE w' g4 i [112] e pv nv cv) := by
    intro w' hb i hi
    have h1 := HAT.out.below hb
    rw [← HNN.out] at h1
    exact h1.at HNN.out i hi
  clear hat hb4 hf4 hnn hl1 hl2 hl3 hevs hconv
  dsimp only
  go_wp2_with fail
  go_loopw [54] (fun v54 wr => ∃ i : Nat, v54 = .int .i64 i ∧ i ≤ n ∧ Hid (Below w4.heap.size w4 wr)) (fun v54 _ => n - (intOf v54).toNat)
  case atStart => exact ⟨0, rfl, Nat.zero_le _, Below.refl _ _⟩
  case round =>
    obtain ⟨i, rfl, hin, HBr⟩ := hrel
    by_cases hlt : i < n
    · obtain ⟨e, pv, nv, cv, he, hcell⟩ := HCELL.out wr HBr.out i hlt
      obtain ⟨d0, d1, d2, d3, d4, d5, d6, d7, d8, _⟩ := hcell
      by_cases hil : i = n - 1
      · have hfe : e.fb = fl := by
          have h1 := he.out
          rw [HL.out.1, List.getElem?_append_right (by have := HNN.out; rw [HL.out.1] at this; simp at this; omega)] at h1
          have h2 : i - es.length = 0 := by have := HNN.out; rw [HL.out.1] at this; simp at this; omega
          rw [h2] at h1
          obtain rfl : le = e := Option.some.inj h1
          exact HL.out.2.2
        rw [hfe] at d5
        have b1 : ((i : Int) == (n : Int) - 1) = true := by rw [beq_iff_eq]; omega
        clear he hfe hil
        go_wp2_with fail
        go_roundw
        case rel => exact ⟨i + 1, by go_num, by omega, HBr.out.alloc HBr.out.size _⟩
        case measure => simp [intOf]; omega
      · have hfe : e.fb = [] := by
          have h1 := he.out
          rw [HL.out.1, List.getElem?_append_left (by have := HNN.out; rw [HL.out.1] at this; simp at this; omega)] at h1
          exact HL.out.2.1 e (List.mem_of_getElem? h1)
        rw [hfe] at d5
        have b1 : ((i : Int) == (n : Int) - 1) = false := by rw [beq_eq_false_iff_ne]; omega
        have t0 : ((S []).data.toList == []) = true := by decide
        have t1 : ((S []).data.toList != []) = false := by decide
        clear he hfe
        go_wp2_with fail
        go_roundw
        case rel => exact ⟨i + 1, by go_num, by omega, HBr.out.alloc HBr.out.size _⟩
        case measure => simp [intOf]; omega
    · have b0 : (0 : Int) < (n : Int) := by omega
      have hb5 : Below W.heap.size W wr := HB4.out.trans (HBr.out.mono HB4.out.size)
      have HB5 := Lib.hid hb5
      have hwr := HW.out wr hb5
      clear hb5
      go_wp2_with fail
      refine hwr.mono ?_
      rintro e w6 ⟨rfl, hb6⟩
      go_wp2_with fail
      go_ret
      exact ⟨rfl, HB5.out.trans (hb6.mono HB5.out.size)⟩

end Go.Proofs.YtdljobmhnnegiaaDoor

/- The walk of FnWaits (function 13). -/
namespace Go.Proofs.YtdljobmhnnegiaaDoor
open Go.RowKit

theorem PC.below {w w' : World} {v : Value} {ps : List (List UInt8)} (h : PC w v ps) (hb : Below w.heap.size w w') : PC w' v ps := by
  obtain ⟨p, cap, rfl, hc, hel⟩ := h
  refine ⟨p, cap, rfl, hc, fun i hi => ?_⟩
  obtain ⟨g, off, g1, o1, c1, hp, hcell, hl, hr⟩ := hel i hi
  refine ⟨g, off, g1, o1, c1, hp, cellB hb hcell, hl, ?_⟩
  by_cases h0 : 0 < (ps[i]).length
  · exact hr.below hb (hr.lt h0)
  · rw [List.eq_nil_of_length_eq_zero (Nat.eq_zero_of_not_pos h0)]; exact Rd.nil _ _ _
/-- Convert in a world behind the one where the piece was made. -/
theorem late_call {W w w' : World} (hG : G5 W) (h1 : Below W.heap.size W w) {v : Value} {t : List UInt8} (hpc : PC w v [t]) (hb : Below w.heap.size w w') (ht : t.length ≤ 500000) (exit : Int) (f : List UInt8) (close : Bool) :
    Calls Tryd.prog 23 #[v, .string ⟨#[112]⟩, .int .i64 exit, .string (S f), .bool close] w' fun e w2 => ∃ evs v', e = .returned v' ∧ evs = convF [t] exit f close ∧ EvsAt w2 [112] evs v' ∧ Below w'.heap.size w' w2 := by
  have h2 : Below W.heap.size W w' := h1.trans (hb.mono h1.size)
  refine (convert_any (hG.below h2) (hpc.below hb) [112] f exit close (by simp; omega) (by simp)).mono ?_
  intro e w2 hp
  obtain ⟨v', rfl, hb2, hev⟩ := hp.evs
  exact ⟨_, v', rfl, rfl, hev, hb2⟩

set_option maxRecDepth 100000 in
set_option maxHeartbeats 16000000 in
theorem walk_waits (nv : Value) (ns : List (List UInt8)) (kv : Value) (ks : List Int) (lv : Value) (lss : List (List (List UInt8))) (W : World) (hn : SC W nv ns) (hk : IC W kv ks) (hl : SSC W lv lss) (hG : G5 W) :
    Calls Tryd.prog 13 #[nv, kv, lv] W fun e W' => e = .returned (.bool true) ∧ Below W.heap.size W W' := by
  have HG := Lib.hid hG
  have HW : Hid (∀ w', Below W.heap.size W w' → Calls Tryd.prog 22 #[] w' fun e w'' => e = .returned (.bool true) ∧ Below w'.heap.size w' w'') := fun w' hb => works_any (HG.out.below hb)
  have HF1 : Hid (Calls Tryd.prog 27 #[nv] W (FitPost (Fit1 ns) W)) := fits1_any nv ns W hn
  have HF2 : Hid (Calls Tryd.prog 32 #[lv] W (FitPost (Fit2 lss) W)) := fits2_any lv lss W hl
  have HT : Hid (Fit1 ns → ks.length ≤ 2147483647 → Fit2 lss → Calls Tryd.prog 28 #[nv, kv, lv] W (TestsPost W)) := fun h1 h2 h3 => tests_call hn hk hl h1 h2 h3
  obtain ⟨pn, cn, rfl, hcn, _⟩ := hn
  obtain ⟨pk, ck, rfl, hck, _⟩ := hk
  obtain ⟨pl, cl, rfl, hcl, _⟩ := hl
  obtain ⟨N, hN⟩ : ∃ N, N = ns.length := ⟨_, rfl⟩
  obtain ⟨K, hK⟩ : ∃ K, K = ks.length := ⟨_, rfl⟩
  obtain ⟨L, hL⟩ : ∃ L, L = lss.length := ⟨_, rfl⟩
  rw [← hN] at hcn HF1 HT ⊢
  rw [← hK] at hck HT ⊢
  rw [← hL] at hcl HT HF2 ⊢
  clear hG hN hK hL
  go_enter Tryd.func13, Tryd.ntmps13
  go_wp2_with fail
  refine HF1.out.mono ?_
  rintro e w' ⟨b, rfl, hb, rfl⟩
  have HB1 := Lib.hid hb
  clear hb
  cases b with
  | false =>
    dsimp only
    go_wp2_with fail
    go_ret
    exact ⟨rfl, Below.refl _ _⟩
  | true =>
  by_cases hkb : (2147483647 : Int) < (K : Int)
  · dsimp only
    go_wp2_with fail
    go_ret
    exact ⟨rfl, Below.refl _ _⟩
  dsimp only
  go_wp2_with fail
  refine HF2.out.mono ?_
  rintro e w' ⟨b, rfl, hb, rfl⟩
  have HB2 := Lib.hid hb
  clear hb
  cases b with
  | false =>
    dsimp only
    go_wp2_with fail
    go_ret
    exact ⟨rfl, Below.refl _ _⟩
  | true =>
  have HT2 := Lib.hid (HT.out (HB1.out (by trivial)) (by omega) (HB2.out (by trivial)))
  dsimp only
  go_wp2_with fail
  refine HT2.out.mono ?_
  rintro e w1 ⟨v1, b, rfl, hb1, hts⟩
  have HW1 := Lib.hid (HW.out w1 hb1)
  cases b with
  | false =>
    clear hts
    have HBB := Lib.hid hb1
    clear hb1
    dsimp only
    go_wp2_with fail
    refine HW1.out.mono ?_
    rintro e w2 ⟨rfl, hb2⟩
    go_wp2_with fail
    go_ret
    exact ⟨rfl, HBB.out.trans (hb2.mono HBB.out.size)⟩
  | true =>
  obtain ⟨ts, htsc, hlen, hpt⟩ := hts rfl
  have HTS := Lib.hid htsc
  have HPT := Lib.hid hpt
  have HBB := Lib.hid hb1
  clear hts htsc hpt hb1
  dsimp only
  go_wp2_with fail
  refine (story_any v1 ts w1 HTS.out hlen HPT.out).mono ?_
  rintro e w3 ⟨v3, rfl, htl, hb3, hst⟩
  obtain ⟨sx, hsx⟩ : ∃ sx, sx = S (storyL ts).flatten := ⟨_, rfl⟩
  have hsz : sx.size ≤ 70000 := by rw [hsx, S_size]; exact htl
  have HB3 : Hid (Below W.heap.size W w3) := HBB.out.trans (hb3.mono HBB.out.size)
  have HTS3 : Hid (TSC w3 v1 ts) := HTS.out.below hb3
  have HSX : Hid (sx.data.toList = (storyL ts).flatten) := by show _ = _; rw [hsx]
  rw [← hsx]
  clear hb3 htl hsx hst
  have hconv := fun (w : World) => run_bytes_of_string (P := Tryd.prog) w 9 23 5 sx Tryd.underlying9 Tryd.underlying23 Tryd.underlying5
  have hconvD := fun (w : World) => run_bytes_of_string (P := Tryd.prog) w.drew 9 23 5 sx Tryd.underlying9 Tryd.underlying23 Tryd.underlying5
  dsimp only
  go_wp2_with fail
  have HFD : Hid (∀ w', Below w3.heap.size w3 w' → Calls Tryd.prog 29 #[v1] w' fun e w'' => e = .returned (.bool (ts.any fun t => t.kind == 1)) ∧ Below w'.heap.size w' w'') := fun w' hb => specFailed_any v1 ts w' (HTS3.out.below hb) hlen
  obtain ⟨fb, hfb⟩ : ∃ fb, fb = ts.any fun t => t.kind == 1 := ⟨_, rfl⟩
  obtain ⟨x, hx⟩ : ∃ x : Int, x = (if fb = true then 2 else 1) := ⟨_, rfl⟩
  have HXX : Hid (x = 1 ∨ x = 2) := by show _ ∨ _; rw [hx]; cases fb <;> simp
  have HX1 : Hid (∀ w : World, Calls Tryd.prog 31 #[.bool fb] w fun e w' => e = .returned (.int .i64 x) ∧ w = w') := fun w => by rw [hx]; exact exit_any fb w
  rw [← hfb] at HFD
  clear hfb hx
  have hbD : Below w3.heap.size w3 ((w3.alloc (.cells (bytesRow sx (grownCap w3 sx.size 0 5)) 5 ((bytesRow sx (grownCap w3 sx.size 0 5)).size, (bytesRow sx (grownCap w3 sx.size 0 5)).size + 1))).alloc (.cells #[.slice (some ⟨w3.heap.size, 0, none⟩) sx.size (grownCap w3 sx.size 0 5)] 23)).drew := (((Below.refl _ w3).alloc (Nat.le_refl _) _).alloc (by rw [size_alloc]; omega) _).drew
  have HPD : Hid (PC ((w3.alloc (.cells (bytesRow sx (grownCap w3 sx.size 0 5)) 5 ((bytesRow sx (grownCap w3 sx.size 0 5)).size, (bytesRow sx (grownCap w3 sx.size 0 5)).size + 1))).alloc (.cells #[.slice (some ⟨w3.heap.size, 0, none⟩) sx.size (grownCap w3 sx.size 0 5)] 23)).drew (.slice (some ⟨w3.heap.size + 1, 0, none⟩) 1 1) [sx.data.toList]) := pc_one w3 sx (grownCap w3 sx.size 0 5) (grownCap_ge _ _ _ _) _ _
  have HBD := Lib.hid hbD
  have HF3 := Lib.hid (HFD.out _ hbD)
  clear hbD
  refine HF3.out.mono ?_
  rintro e w4 ⟨rfl, hb4⟩
  have HL4 : Hid (Calls Tryd.prog 23 #[.slice (some ⟨w3.heap.size + 1, 0, none⟩) 1 1, .string ⟨#[112]⟩, .int .i64 x, .string (S []), .bool true] w4 fun e w2 => ∃ evs v', e = .returned v' ∧ evs = convF [sx.data.toList] x [] true ∧ EvsAt w2 [112] evs v' ∧ Below w4.heap.size w4 w2) :=
    late_call HG.out (HB3.out.trans (HBD.out.mono HB3.out.size)) HPD.out hb4 (by simp; omega) x [] true
  have HB4 : Hid (Below w3.heap.size w3 w4) := HBD.out.trans (hb4.mono HBD.out.size)
  clear hb4 HF3 HBD HPD
  dsimp only
  go_wp2_with fail
  refine (HX1.out _).mono ?_
  rintro e w' ⟨rfl, rfl⟩
  dsimp only
  go_wp2_with fail
  refine HL4.out.mono ?_
  rintro e w5 ⟨A, v5, rfl, hA, hatA, hb5⟩
  have HB5 : Hid (Below w3.heap.size w3 w5) := HB4.out.trans (hb5.mono HB4.out.size)
  have HA := Lib.hid hA
  have HATA := Lib.hid hatA
  clear hb5 hA HL4 hatA
  have hbD : Below w5.heap.size w5 ((w5.alloc (.cells (bytesRow sx (grownCap w5 sx.size 0 5)) 5 ((bytesRow sx (grownCap w5 sx.size 0 5)).size, (bytesRow sx (grownCap w5 sx.size 0 5)).size + 1))).alloc (.cells #[.slice (some ⟨w5.heap.size, 0, none⟩) sx.size (grownCap w5 sx.size 0 5)] 23)).drew := (((Below.refl _ w5).alloc (Nat.le_refl _) _).alloc (by rw [size_alloc]; omega) _).drew
  have HPD : Hid (PC ((w5.alloc (.cells (bytesRow sx (grownCap w5 sx.size 0 5)) 5 ((bytesRow sx (grownCap w5 sx.size 0 5)).size, (bytesRow sx (grownCap w5 sx.size 0 5)).size + 1))).alloc (.cells #[.slice (some ⟨w5.heap.size, 0, none⟩) sx.size (grownCap w5 sx.size 0 5)] 23)).drew (.slice (some ⟨w5.heap.size + 1, 0, none⟩) 1 1) [sx.data.toList]) := pc_one w5 sx (grownCap w5 sx.size 0 5) (grownCap_ge _ _ _ _) _ _
  have HBD := Lib.hid hbD
  have HF5 := Lib.hid (HFD.out _ (HB5.out.trans (hbD.mono HB5.out.size)))
  clear hbD
  dsimp only
  go_wp2_with fail
  refine HF5.out.mono ?_
  rintro e w6 ⟨rfl, hb6⟩
  have HB35 : Hid (Below W.heap.size W w5) := HB3.out.trans (HB5.out.mono HB3.out.size)
  have HL6 : Hid (Calls Tryd.prog 23 #[.slice (some ⟨w5.heap.size + 1, 0, none⟩) 1 1, .string ⟨#[112]⟩, .int .i64 x, .string (S []), .bool false] w6 fun e w2 => ∃ evs v', e = .returned v' ∧ evs = convF [sx.data.toList] x [] false ∧ EvsAt w2 [112] evs v' ∧ Below w6.heap.size w6 w2) :=
    late_call HG.out (HB35.out.trans (HBD.out.mono HB35.out.size)) HPD.out hb6 (by simp; omega) x [] false
  have HB6 : Hid (Below w5.heap.size w5 w6) := HBD.out.trans (hb6.mono HBD.out.size)
  clear hb6 HF5 HBD HPD
  dsimp only
  go_wp2_with fail
  refine (HX1.out _).mono ?_
  rintro e w' ⟨rfl, rfl⟩
  dsimp only
  go_wp2_with fail
  refine HL6.out.mono ?_
  rintro e w7 ⟨B, v7, rfl, hB, hatB, hb7⟩
  have HB7 : Hid (Below w5.heap.size w5 w7) := HB6.out.trans (hb7.mono HB6.out.size)
  clear hb7 HL6
  obtain ⟨r, hr0, hr⟩ := waits_law [sx.data.toList] x HXX.out
  rw [← HA.out, ← hB] at hr
  obtain ⟨q, hq⟩ := convF_head [sx.data.toList] x [] false
  rw [← hB] at hq
  have hatA7 := HATA.out.below HB7.out
  obtain ⟨pA, cA, rfl, hfA⟩ := hatA7.form
  obtain ⟨pB, cB, rfl, hfB⟩ := hatB.form
  obtain ⟨gB, rfl, hlB⟩ := hfB (by rw [hq]; simp)
  obtain ⟨gA, rfl, hlA⟩ := hfA (by rw [hr, hq]; simp)
  obtain ⟨a, ha⟩ : ∃ a, a = A.length := ⟨_, rfl⟩
  obtain ⟨b, hb⟩ : ∃ b, b = B.length := ⟨_, rfl⟩
  have hba : b < a := by rw [ha, hb, hr, List.length_append]; have := List.length_pos_iff.2 hr0; omega
  have hbig : a ≤ maxLen := by rw [ha]; exact hatA7.few
  have hbig2 : a ≤ 9223372036854775807 := by unfold maxLen at hbig; omega
  rw [← ha] at hlA hatA7 ⊢
  rw [← hb] at hlB hatB ⊢
  have HAA := Lib.hid ha
  have HBBB := Lib.hid hb
  have HR := Lib.hid hr
  have HATA7 := Lib.hid hatA7
  have HATB := Lib.hid hatB
  have HBW : Hid (Below W.heap.size W w7) := HB35.out.trans (HB7.out.mono HB35.out.size)
  have HCELL : Hid (∀ w', Below w7.heap.size w7 w' → ∀ i, i < b → ∃ (e : Ev) (p1 : Option Addr) (n1 c1 : Nat) (p2 : Option Addr) (n2 c2 : Nat), CellsE w' gB i [112] e p1 n1 c1 ∧ CellsE w' gA i [112] e p2 n2 c2) := by
    intro w' hbw i hi
    obtain ⟨e1, p1, n1, c1, he1, hc1⟩ := (HATB.out.below hbw).at HBBB.out i hi
    obtain ⟨e2, p2, n2, c2, he2, hc2⟩ := (HATA7.out.below hbw).at HAA.out i (by omega)
    have : e2 = e1 := by
      have h2 := he2.out
      rw [HR.out, List.getElem?_append_left (by rw [← HBBB.out]; exact hi), he1.out] at h2
      exact (Option.some.inj h2).symm
    subst this
    exact ⟨e2, p1, n1, c1, p2, n2, c2, hc1, hc2⟩
  clear hatA7 hatB hfA hfB ha hb hr hq hr0 hB hconv hconvD
  dsimp only
  go_wp2_with fail
  go_loopw [64] (fun v64 wr => ∃ i : Nat, v64 = .int .i64 i ∧ i ≤ b ∧ Hid (Below w7.heap.size w7 wr)) (fun v64 _ => b - (intOf v64).toNat)
  case atStart => exact ⟨0, rfl, Nat.zero_le _, Below.refl _ _⟩
  case round =>
    obtain ⟨i, rfl, hin, HBr⟩ := hrel
    by_cases hlt : i < b
    · obtain ⟨e, p1, n1, c1, p2, n2, c2, hc1, hc2⟩ := HCELL.out wr HBr.out i hlt
      have s1 : ∀ o m, (convert 23 9 (.slice p1 n1 c1)).run Tryd.prog ((wr.alloc o).drewN m) = .ok (.string (S e.output)) ((wr.alloc o).drewN m) := fun o m => hc1.str (((Below.refl _ wr).alloc (Nat.le_refl _) o).trans ((drewN_below (wr.alloc o) m).mono (by rw [size_alloc]; omega)))
      have s2 : ∀ o m, (convert 23 9 (.slice p2 n2 c2)).run Tryd.prog ((wr.alloc o).drewN m) = .ok (.string (S e.output)) ((wr.alloc o).drewN m) := fun o m => hc2.str (((Below.refl _ wr).alloc (Nat.le_refl _) o).trans ((drewN_below (wr.alloc o) m).mono (by rw [size_alloc]; omega)))
      have f0 : ∀ o, (wr.alloc o).cell? ⟨gA, i * 9, none⟩ = some (.string (S e.action)) := fun o => cellB ((Below.refl _ wr).alloc (Nat.le_refl _) o) hc2.c0
      have f2 : ∀ o, (wr.alloc o).cell? ⟨gA, i * 9 + 2, none⟩ = some (.string (S e.test)) := fun o => cellB ((Below.refl _ wr).alloc (Nat.le_refl _) o) hc2.c2
      have f3 : ∀ o, (wr.alloc o).cell? ⟨gA, i * 9 + 3, none⟩ = some (.slice p2 n2 c2) := fun o => cellB ((Below.refl _ wr).alloc (Nat.le_refl _) o) hc2.c3
      obtain ⟨d0, d1, d2, d3, d4, d5, d6, d7, d8, _⟩ := hc1
      have ia : (i : Int) < (a : Int) := by omega
      clear hc2
      go_wp2_with fail
      go_quiet (fail)
      go_wp2_with fail
      go_roundw
      case rel => exact ⟨i + 1, by go_num, by omega, (HBr.out.alloc HBr.out.size _).trans ((drewN_below _ _).mono (by rw [size_alloc]; have := HBr.out.size; omega))⟩
      case measure => simp [intOf]; omega
    · have hb5 : Below W.heap.size W wr := HBW.out.trans (HBr.out.mono HBW.out.size)
      have HB5' := Lib.hid hb5
      have hwr := HW.out wr hb5
      clear hb5
      go_wp2_with fail
      refine hwr.mono ?_
      rintro e w6 ⟨rfl, hb6⟩
      go_wp2_with fail
      go_ret
      exact ⟨rfl, HB5'.out.trans (hb6.mono HB5'.out.size)⟩

end Go.Proofs.YtdljobmhnnegiaaDoor
