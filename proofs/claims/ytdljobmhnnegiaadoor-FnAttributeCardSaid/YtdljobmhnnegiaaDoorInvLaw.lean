/- What the plain functions of the converter keep, and how much they may yet write. -/
import Derived.Test.YtdljobmhnnegiaaDoorWriteLaw
import Derived.Test.YtdljobmhnnegiaaDoorWoLaw
namespace Go.Proofs.YtdljobmhnnegiaaDoor

section
variable {σ : Type} {L P : σ → List UInt8 → σ} {I : σ → Prop} (hL : ∀ s x, I s → I (L s x)) (hP : ∀ s x, I s → I (P s x))
include hP in
theorem tabF_keep {x : IS σ} (h : I x.s) : I (tabF P x).s := by
  unfold tabF
  split
  · exact h
  · split
    · split
      · exact hP _ _ h
      · exact h
    · exact h
include hL hP in
theorem innerF_keep : ∀ (q : Nat) {x : IS σ}, I x.s → I (innerF L P q x).s
  | 0, x, h => h
  | q + 1, x, h => by
    unfold innerF
    split
    · exact h
    · split
      · refine innerF_keep q ?_
        unfold lineF
        dsimp only
        split
        · exact hP _ _ h
        · exact hL _ _ h
      · exact tabF_keep hP h
include hP in
theorem endF_keep {cap n : Nat} {x : IS σ} (h : I x.s) : I (endF P cap n x).2 := by
  unfold endF
  split
  · exact hP _ _ h
  · exact h
include hL hP in
theorem writeF_keep (cap : Nat) : ∀ (f : Nat) (x : LB × σ) (l : List UInt8), I x.2 → I (writeF L P cap f x l).2
  | 0, x, l, h => h
  | f + 1, x, l, h => by
    unfold writeF
    split
    · exact h
    · refine writeF_keep cap f _ _ ?_
      unfold roundF
      exact endF_keep hP (innerF_keep hL hP _ h)
include hP in
theorem flushF_keep {b : LB} {s : σ} (h : I s) : I (flushF P b s).2 := by
  unfold flushF
  split
  · exact h
  · exact hP _ _ h
end

/-- What output leaves as it is; events are only put behind. -/
structure Kept (s s' : CS) : Prop where
  name : s'.name = s.name
  report : s'.report = s.report
  result : s'.result = s.result
  mf : s'.mFraming = s.mFraming
  framing : s'.framing = s.framing
  fb : s'.fb = s.fb
  evs : s.evs <+: s'.evs
theorem Kept.refl (s : CS) : Kept s s := ⟨rfl, rfl, rfl, rfl, rfl, rfl, List.prefix_rfl⟩
theorem Kept.trans {a b c : CS} (h : Kept a b) (h' : Kept b c) : Kept a c :=
  ⟨h'.name.trans h.name, h'.report.trans h.report, h'.result.trans h.result, h'.mf.trans h.mf, h'.framing.trans h.framing, h'.fb.trans h.fb, h.evs.trans h'.evs⟩

theorem emit_kept (s : CS) (e : Ev) : Kept s (emit s e) := ⟨rfl, rfl, rfl, rfl, rfl, rfl, List.prefix_append _ _⟩
theorem emitN_kept (s : CS) (o ty : List UInt8) : Kept s (emitN s o ty) := by
  unfold emitN; split
  · exact .refl s
  · exact emit_kept _ _
theorem mEsc_kept (s : CS) (b : Bool) : Kept s { s with mEsc := b } := ⟨rfl, rfl, rfl, rfl, rfl, rfl, List.prefix_rfl⟩
theorem mErr_kept (s : CS) (b : Bool) : Kept s { s with mErr := b } := ⟨rfl, rfl, rfl, rfl, rfl, rfl, List.prefix_rfl⟩
theorem woL_kept : ∀ (q : Nat) (s : CS) (ty acc rest : List UInt8), Kept s (woL q s ty acc rest)
  | 0, s, ty, acc, rest => by unfold woL; exact emitN_kept _ _ _
  | q + 1, s, ty, acc, [] => by unfold woL; exact emitN_kept _ _ _
  | q + 1, s, ty, acc, c :: r => by
    unfold woL
    split
    · exact (mEsc_kept s false).trans (woL_kept q _ _ _ _)
    · split
      · exact (mEsc_kept s true).trans (woL_kept q _ _ _ _)
      · split
        · exact ((emitN_kept s acc ty).trans (mErr_kept _ true)).trans (woL_kept q _ _ _ _)
        · split
          · split
            · exact ((emit_kept s _).trans (mErr_kept _ false)).trans (woL_kept q _ _ _ _)
            · exact ((emit_kept s _).trans (mErr_kept _ false)).trans (woL_kept q _ _ _ _)
          · exact woL_kept q _ _ _ _
theorem woF_kept (s : CS) (l : List UInt8) : Kept s (woF s l) := woL_kept _ _ _ _ _
theorem out_kept (s : CS) (b : LB) : Kept s { s with out := b } := ⟨rfl, rfl, rfl, rfl, rfl, rfl, List.prefix_rfl⟩
theorem outW_kept (s : CS) (l : List UInt8) : Kept s (outW s l) := by
  unfold outW
  exact (writeF_keep (I := Kept s) (fun a x h => h.trans (woF_kept a x)) (fun a x h => h.trans (woF_kept a x)) 1024 l.length (s.out, s) l (Kept.refl s)).trans (out_kept _ _)
theorem outFl_kept (s : CS) : Kept s (outFl s) := by
  unfold outFl
  exact (flushF_keep (I := Kept s) (fun a x h => h.trans (woF_kept a x)) (Kept.refl s)).trans (out_kept _ _)

end Go.Proofs.YtdljobmhnnegiaaDoor
