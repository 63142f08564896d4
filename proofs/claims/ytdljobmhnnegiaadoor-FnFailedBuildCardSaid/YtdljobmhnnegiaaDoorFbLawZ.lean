/- The plain laws of FnFailedBuild and FnWaits: a build that failed is told in the last event alone; what comes before the end is a beginning of all. -/
import Derived.Test.YtdljobmhnnegiaaDoorZ4
import Derived.Test.YtdljobmhnnegiaaDoorZ3
namespace Go.Proofs.YtdljobmhnnegiaaDoor

/-- No event tells a build that failed. -/
def NFb (s : CS) : Prop := (∀ e ∈ s.evs, e.fb = []) ∧ s.fb = []
theorem NFb.emit {s : CS} (h : NFb s) (e : Ev) (he : e.fb = []) : NFb (emit s e) := by
  refine ⟨fun x hx => ?_, h.2⟩
  unfold Go.Proofs.YtdljobmhnnegiaaDoor.emit at hx
  rcases List.mem_append.1 hx with hx | hx
  · exact h.1 x hx
  · rw [List.mem_singleton] at hx
    subst hx
    split
    · exact he
    · exact he
theorem NFb.emitN {s : CS} (h : NFb s) (o ty : List UInt8) : NFb (emitN s o ty) := by
  unfold Go.Proofs.YtdljobmhnnegiaaDoor.emitN
  split
  · exact h
  · exact h.emit _ rfl
theorem NFb.woL : ∀ (q : Nat) (s : CS) (ty acc rest : List UInt8), NFb s → NFb (woL q s ty acc rest)
  | 0, s, ty, acc, rest, h => by unfold Go.Proofs.YtdljobmhnnegiaaDoor.woL; exact h.emitN _ _
  | q + 1, s, ty, acc, [], h => by unfold Go.Proofs.YtdljobmhnnegiaaDoor.woL; exact h.emitN _ _
  | q + 1, s, ty, acc, c :: r, h => by
    unfold Go.Proofs.YtdljobmhnnegiaaDoor.woL
    split
    · exact NFb.woL q { s with mEsc := false } _ _ _ h
    · split
      · exact NFb.woL q { s with mEsc := true } _ _ _ h
      · split
        · exact NFb.woL q { Go.Proofs.YtdljobmhnnegiaaDoor.emitN s acc ty with mErr := true } _ _ _ (h.emitN acc ty)
        · split
          · split
            · exact NFb.woL q { Go.Proofs.YtdljobmhnnegiaaDoor.emit s (.out (acc ++ [10]) ty) with mErr := false } _ _ _ (h.emit _ rfl)
            · exact NFb.woL q { Go.Proofs.YtdljobmhnnegiaaDoor.emit s (.out acc ty) with mErr := false } _ _ _ (h.emit _ rfl)
          · exact NFb.woL q s _ _ _ h
theorem NFb.woF (s : CS) (l : List UInt8) (h : NFb s) : NFb (woF s l) := NFb.woL _ _ _ _ _ h
theorem NFb.outW (s : CS) (l : List UInt8) (h : NFb s) : NFb (outW s l) :=
  writeF_keep (I := NFb) NFb.woF NFb.woF 1024 l.length (s.out, s) l h
theorem NFb.outFl (s : CS) (h : NFb s) : NFb (outFl s) :=
  flushF_keep (I := NFb) NFb.woF (b := s.out) (s := s) h
theorem NFb.frame (s : CS) (l : List UInt8) (h : NFb s) : NFb (frameF s l) := NFb.outW { s with framing := true } l h
theorem NFb.flushRep (s : CS) (d : Nat) (h : NFb s) : NFb (flushRep s d) := by
  refine ⟨fun x hx => ?_, h.2⟩
  rcases List.mem_append.1 hx with hx | hx
  · exact h.1 x hx
  · obtain ⟨p, _, rfl⟩ := List.mem_map.1 hx; rfl
theorem updE_fb (act nm : List UInt8) : (updE act nm).2.fb = [] := by
  unfold updE
  split
  · rfl
  · split <;> rfl
theorem NFb.upd (s : CS) (saw : Bool) (o a nm : List UInt8) (h : NFb s) : NFb (updF s saw o a nm) := by
  unfold updF updG
  have h1 : NFb { Go.Proofs.YtdljobmhnnegiaaDoor.flushRep { s with mFraming := saw } 0 with name := (updE a nm).1 } := NFb.flushRep { s with mFraming := saw } 0 h
  split
  · exact h1
  · split
    · exact (NFb.frame _ o h1).emit _ (updE_fb _ _)
    · exact NFb.frame _ o (h1.emit _ (updE_fb _ _))
theorem NFb.rep (s : CS) (saw : Bool) (o a nm : List UInt8) (d : Nat) (h : NFb s) : NFb (repF s saw o a nm d) := by
  unfold repF
  split
  · exact NFb.outW s o h
  · exact NFb.frame _ o (NFb.flushRep { s with mFraming := saw } d h)
theorem NFb.nameAt (s : CS) (d : Nat) (h : NFb s) : NFb (nameAt s d) := by
  unfold Go.Proofs.YtdljobmhnnegiaaDoor.nameAt
  split
  · exact h
  · split <;> exact h
theorem NFb.lineH (s : CS) (saw : Bool) (l : List UInt8) (h : NFb s) : NFb (lineHF s saw l) := by
  unfold lineHF
  split
  · exact NFb.upd _ _ _ _ _ h
  · split
    · exact NFb.rep _ _ _ _ _ _ h
    · exact NFb.outW _ _ (NFb.nameAt _ _ h)
theorem NFb.marked (s : CS) (saw : Bool) (l : List UInt8) (h : NFb s) : NFb (markedF s saw l) := by
  obtain ⟨l2, h2⟩ : ∃ l2, l2 = if trimF l = tName then tNameLine else l := ⟨_, rfl⟩
  obtain ⟨tr, h3⟩ : ∃ tr, tr = if trimF l = tName then tNameLine.dropLast else trimF l := ⟨_, rfl⟩
  rw [markedF_eq s saw l l2 tr h2 h3]
  split
  · exact NFb.frame _ l2 (NFb.flushRep s 0 h)
  · refine NFb.lineH _ _ _ ?_
    unfold skipF
    split <;> exact h
theorem NFb.handle (s : CS) (l : List UInt8) (h : NFb s) : NFb (handleF s l) := by
  unfold handleF
  split
  · exact h
  · split
    · exact NFb.outW _ _ h
    · split
      · exact NFb.marked _ _ _ (NFb.outFl _ h)
      · exact NFb.marked _ _ _ h
theorem NFb.inW (x : CI) (l : List UInt8) (h : NFb x.2) : NFb (inW x l).2 :=
  writeF_keep (I := NFb) NFb.handle NFb.outW 4096 l.length x l h
theorem NFb.fold : ∀ (ps : List (List UInt8)) (x : CI), NFb x.2 → NFb (ps.foldl Go.Proofs.YtdljobmhnnegiaaDoor.inW x).2
  | [], _, h => h
  | p :: ps, x, h => NFb.fold ps (Go.Proofs.YtdljobmhnnegiaaDoor.inW x p) (NFb.inW x p h)

/-- The same, of the events alone. -/
theorem evs_woF (s : CS) (l : List UInt8) (h : ∀ e ∈ s.evs, e.fb = []) : ∀ e ∈ (woF s l).evs, e.fb = [] := by
  have key : ∀ (q : Nat) (s : CS) (ty acc rest : List UInt8), (∀ e ∈ s.evs, e.fb = []) → ∀ e ∈ (woL q s ty acc rest).evs, e.fb = [] := by
    intro q
    have hem : ∀ (s : CS) (o ty : List UInt8), (∀ e ∈ s.evs, e.fb = []) → ∀ e ∈ (emit s (.out o ty)).evs, e.fb = [] := fun s o ty h x hx => by
      rcases List.mem_append.1 hx with hx | hx
      · exact h x hx
      · rw [List.mem_singleton] at hx; subst hx; rfl
    have hen : ∀ (s : CS) (o ty : List UInt8), (∀ e ∈ s.evs, e.fb = []) → ∀ e ∈ (emitN s o ty).evs, e.fb = [] := fun s o ty h => by
      unfold emitN
      split
      · exact h
      · exact hem s o ty h
    induction q with
    | zero => intro s ty acc rest h; unfold woL; exact hen _ _ _ h
    | succ q ih =>
      intro s ty acc rest h
      cases rest with
      | nil => unfold woL; exact hen _ _ _ h
      | cons c r =>
        unfold woL
        split
        · exact ih { s with mEsc := false } _ _ _ h
        · split
          · exact ih { s with mEsc := true } _ _ _ h
          · split
            · exact ih { emitN s acc ty with mErr := true } _ _ _ (hen s acc ty h)
            · split
              · split
                · exact ih { emit s (.out (acc ++ [10]) ty) with mErr := false } _ _ _ (hem s _ _ h)
                · exact ih { emit s (.out acc ty) with mErr := false } _ _ _ (hem s _ _ h)
              · exact ih s _ _ _ h
  exact key _ _ _ _ _ h

/-- The law of FnFailedBuild. -/
theorem fb_law (ps : List (List UInt8)) (f : List UInt8) : ∃ es e, convF ps 2 f true = es ++ [e] ∧ (∀ x ∈ es, x.fb = []) ∧ e.fb = f := by
  have h0 : NFb (ps.foldl inW startF).2 := NFb.fold ps startF ⟨fun e he => by rw [startF_evs, List.mem_singleton] at he; rw [he]; rfl, rfl⟩
  obtain ⟨y, hy⟩ : ∃ y, y = ps.foldl inW startF := ⟨_, rfl⟩
  rw [← hy] at h0
  have hr : (failF (exitF y 2) f).2.result = tfail := by
    rw [failF_result]
    exact (exitF_result y 2 (.inr rfl)).2.1 rfl
  have hev : (failF (exitF y 2) f).2.evs = y.2.evs := by rw [failF_evs, exitF_evs]
  have hf : (failF (exitF y 2) f).2.fb = f := by
    unfold failF
    dsimp only
    split
    · rename_i hf0
      rw [hf0]
      unfold exitF
      dsimp only
      rw [if_neg (by decide), if_pos rfl]
      exact h0.2
    · rfl
  unfold convF
  dsimp only
  rw [if_pos rfl, ← hy]
  obtain ⟨x, hx⟩ : ∃ x, x = failF (exitF y 2) f := ⟨_, rfl⟩
  rw [← hx] at hr hev hf ⊢
  clear hx
  have hk : ∀ e ∈ (outFl (flushF outW x.1 x.2).2).evs, e.fb = [] := by
    have hI : ∀ e ∈ x.2.evs, e.fb = [] := by rw [hev]; exact h0.1
    have key : ∀ (s : CS), (∀ e ∈ s.evs, e.fb = []) → ∀ l, ∀ e ∈ (outW s l).evs, e.fb = [] := fun s hs l => by
      have := writeF_keep (I := fun s : CS => ∀ e ∈ s.evs, e.fb = []) (L := woF) (P := woF) (fun s l h => evs_woF s l h) (fun s l h => evs_woF s l h) 1024 l.length (s.out, s) l hs
      exact this
    have h1 := flushF_keep (I := fun s : CS => ∀ e ∈ s.evs, e.fb = []) (P := outW) (fun s l h => key s h l) (b := x.1) (s := x.2) hI
    exact flushF_keep (I := fun s : CS => ∀ e ∈ s.evs, e.fb = []) (P := woF) (fun s l h => evs_woF s l h) (b := (flushF outW x.1 x.2).2.out) (s := (flushF outW x.1 x.2).2) h1
  obtain ⟨s, hs1, hs2⟩ := closeF_last (x := x) (by rw [hr]; decide)
  have hsk : s.evs = (outFl (flushF outW x.1 x.2).2).evs := by
    have h3 := hs2
    unfold closeF at h3
    dsimp only at h3
    rw [if_neg (by
      have hkk : Kept x.2 (outFl (flushF outW x.1 x.2).2) := (flushF_keep (I := Kept x.2) (fun a y h => h.trans (outW_kept a y)) (Kept.refl _)).trans (outFl_kept _)
      rw [hkk.result, hr]; decide)] at h3
    unfold emit at h3
    dsimp only at h3
    exact (List.append_inj_left' h3 rfl).symm
  refine ⟨s.evs, _, hs2, by rw [hsk]; exact hk, ?_⟩
  dsimp only
  rw [if_pos hr, hf]

/-- The law of FnWaits. -/
theorem waits_law (ps : List (List UInt8)) (exit : Int) (h : exit = 1 ∨ exit = 2) : ∃ r, r ≠ [] ∧ convF ps exit [] true = convF ps exit [] false ++ r := by
  have hr := exitF_result (ps.foldl inW startF) exit h
  have hne : (failF (exitF (ps.foldl inW startF) exit) []).2.result ≠ [] := by rw [failF_result]; exact hr.1
  obtain ⟨s, hk, he⟩ := closeF_last hne
  obtain ⟨r, hr⟩ := hk.evs
  unfold convF
  dsimp only
  rw [if_pos rfl, if_neg (by simp), he, ← hr]
  exact ⟨_, by simp, List.append_assoc _ _ _⟩

end Go.Proofs.YtdljobmhnnegiaaDoor
