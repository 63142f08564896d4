/- Small laws of the plain function writeF. -/
import Derived.Test.YtdljobmhnnegiaaDoorWriteF
namespace Go.Proofs.YtdljobmhnnegiaaDoor

section
variable {σ σ' : Type} (φ : σ' → σ) {L P : σ → List UInt8 → σ} {L' P' : σ' → List UInt8 → σ'} (hL : ∀ s l, φ (L' s l) = L (φ s) l) (hP : ∀ s l, φ (P' s l) = P (φ s) l)

/-- The same over a state that says less. -/
def isMap (x : IS σ') : IS σ := ⟨x.i, x.rest, x.mid, x.esc, φ x.s⟩
include hP
theorem tabF_map (x : IS σ') : isMap φ (tabF P' x) = tabF P (isMap φ x) := by
  unfold tabF isMap
  dsimp only
  split
  · rfl
  · split
    · split
      · simp [hP]
      · rfl
    · rfl
theorem endF_map (cap n : Nat) (x : IS σ') : (endF P cap n (isMap φ x)).1 = (endF P' cap n x).1 ∧ (endF P cap n (isMap φ x)).2 = φ (endF P' cap n x).2 := by
  unfold endF isMap
  dsimp only
  split
  · exact ⟨rfl, (hP _ _).symm⟩
  · exact ⟨rfl, rfl⟩
include hL
theorem lineF_map (x : IS σ') (k : Nat) : isMap φ (lineF L' P' x k) = lineF L P (isMap φ x) k := by
  unfold lineF isMap
  dsimp only
  split <;> simp [hL, hP]
theorem innerF_map : ∀ (q : Nat) (x : IS σ'), isMap φ (innerF L' P' q x) = innerF L P q (isMap φ x)
  | 0, x => rfl
  | q + 1, x => by
    unfold innerF
    show _ = if x.rest = [] then _ else _
    split
    · rfl
    · show isMap φ (match (eolF x.esc 0 x.rest).1 with | some (j, p) => _ | none => _) = match (eolF x.esc 0 x.rest).1 with | some (j, p) => _ | none => _
      split
      · rename_i j p _
        rw [innerF_map q, lineF_map φ hL hP]; rfl
      · rw [tabF_map φ hP]; rfl
theorem roundF_map (cap : Nat) (b : LB) (ch : List UInt8) (s : σ') : (roundF L P cap b ch (φ s)).1 = (roundF L' P' cap b ch s).1 ∧ (roundF L P cap b ch (φ s)).2 = φ (roundF L' P' cap b ch s).2 := by
  unfold roundF
  have h := innerF_map φ hL hP (b.bs.length + ch.length) ⟨0, b.bs ++ ch, b.mid, b.esc, s⟩
  rw [show (⟨0, b.bs ++ ch, b.mid, b.esc, φ s⟩ : IS σ) = isMap φ ⟨0, b.bs ++ ch, b.mid, b.esc, s⟩ from rfl, ← h]
  exact endF_map φ hP cap _ _
theorem writeF_map (cap : Nat) : ∀ (f : Nat) (b : LB) (s : σ') (l : List UInt8), (writeF L P cap f (b, φ s) l).1 = (writeF L' P' cap f (b, s) l).1 ∧ (writeF L P cap f (b, φ s) l).2 = φ (writeF L' P' cap f (b, s) l).2
  | 0, b, s, l => ⟨rfl, rfl⟩
  | f + 1, b, s, l => by
    unfold writeF
    split
    · exact ⟨rfl, rfl⟩
    · have h := roundF_map φ hL hP cap b (l.take (min (cap - b.bs.length) l.length)) s
      have h2 := writeF_map cap f (roundF L' P' cap b (l.take (min (cap - b.bs.length) l.length)) s).1 (roundF L' P' cap b (l.take (min (cap - b.bs.length) l.length)) s).2 (l.drop (min (cap - b.bs.length) l.length))
      dsimp only
      rw [show roundF L P cap b (l.take (min (cap - b.bs.length) l.length)) (φ s) = ((roundF L' P' cap b (l.take (min (cap - b.bs.length) l.length)) s).1, φ (roundF L' P' cap b (l.take (min (cap - b.bs.length) l.length)) s).2) from Prod.ext h.1 h.2]
      exact h2
end

section
variable {σ : Type} {L P : σ → List UInt8 → σ} {pot : σ → Nat} (hpL : ∀ s l, pot (L s l) = pot s + l.length) (hpP : ∀ s l, pot (P s l) = pot s + l.length)
include hpL hpP
/-- What was handed on and what is kept: no more than what came. -/
theorem writeF_tot (cap : Nat) : ∀ (f : Nat) (b : LB) (s : σ) (l : List UInt8), pot (writeF L P cap f (b, s) l).2 + (writeF L P cap f (b, s) l).1.bs.length ≤ pot s + b.bs.length + l.length
  | 0, b, s, l => by unfold writeF; dsimp only; omega
  | f + 1, b, s, l => by
    unfold writeF
    split
    · dsimp only; omega
    · dsimp only
      obtain ⟨r, hr⟩ : ∃ r, r = roundF L P cap b (l.take (min (cap - b.bs.length) l.length)) s := ⟨_, rfl⟩
      have h1 : pot r.2 + r.1.bs.length = pot s + b.bs.length + (l.take (min (cap - b.bs.length) l.length)).length := by
        rw [hr]
        unfold roundF
        rw [tot_end hpP, tot_inner hpL hpP]
        unfold tot
        dsimp only
        rw [List.length_append]; omega
      rw [← hr]
      have h2 : pot (writeF L P cap f r (l.drop (min (cap - b.bs.length) l.length))).2 + (writeF L P cap f r (l.drop (min (cap - b.bs.length) l.length))).1.bs.length ≤ pot r.2 + r.1.bs.length + (l.drop (min (cap - b.bs.length) l.length)).length := writeF_tot cap f r.1 r.2 _
      rw [List.length_take] at h1
      rw [List.length_drop] at h2
      omega
end

end Go.Proofs.YtdljobmhnnegiaaDoor
