/- Small lemmas for the contract of lineBuffer.write, and the pieces of its code. -/
import Derived.Test.YtdljobmhnnegiaaDoorWriteF
import Derived.Deep.CutBlock
import Derived.Deep.RegionLaw
import Derived.BigQuiet
import Derived.Deep.QuietTactic
namespace Go.Proofs.YtdljobmhnnegiaaDoor
open Go.RowKit

/-- A piece of a code, by the way to it. -/
def codeAt : List Nat → Code → Code
  | [], c => c
  | 0 :: p, .seq a _ => codeAt p a
  | _ :: p, .seq _ b => codeAt p b
  | 0 :: p, .cond _ a _ => codeAt p a
  | _ :: p, .cond _ _ b => codeAt p b
  | _ :: p, .block _ b => codeAt p b
  | _ :: p, .loop b => codeAt p b
  | _ :: p, .scope b => codeAt p b
  | _, c => c
/-- No panic is let by. -/
def NoP (Q : Exit → Act → World → Prop) : Exit → Act → World → Prop
  | .panic _, _, _ => False
  | e, a, w => Q e a w
theorem wp_nop {P : Program} {s : Code} {Q : Exit → Act → World → Prop} {a : Act} {w : World} (h : s.wp P (NoP Q) a w) : s.wp P Q a w := by
  refine wp_mono h fun e a w hq => ?_
  cases e <;> first | exact hq | exact hq.elim

noncomputable def code50 (p : List Nat) : Code := codeAt p (Tryd.f50.body.getD .skip)

theorem innerF_nil {σ : Type} (L P : σ → List UInt8 → σ) (q i : Nat) (m e : Bool) (s : σ) : innerF L P q ⟨i, [], m, e, s⟩ = ⟨i, [], m, e, s⟩ := by
  cases q with
  | zero => rfl
  | succ q => unfold innerF; rw [if_pos rfl]

theorem innerF_none {σ : Type} (L P : σ → List UInt8 → σ) {q i : Nat} {rest : List UInt8} {m e e' : Bool} {s : σ} (h : eolF e 0 rest = (none, e')) (hne : rest ≠ []) (hq : rest.length ≤ q) :
    innerF L P q ⟨i, rest, m, e, s⟩ = tabF P ⟨i, rest, m, e', s⟩ := by
  cases q with
  | zero => exact absurd (List.length_eq_zero_iff.1 (Nat.le_zero.1 hq)) hne
  | succ q => unfold innerF; rw [if_neg hne]; dsimp only; rw [h]
theorem innerF_some {σ : Type} (L P : σ → List UInt8 → σ) {q i j k : Nat} {rest : List UInt8} {m e e' : Bool} {s : σ} (h : eolF e 0 rest = (some (j, k), e')) (hne : rest ≠ []) (hq : rest.length ≤ q) :
    innerF L P q ⟨i, rest, m, e, s⟩ = innerF L P (q - 1) (lineF L P ⟨i, rest, m, e', s⟩ (j + k)) := by
  cases q with
  | zero => exact absurd (List.length_eq_zero_iff.1 (Nat.le_zero.1 hq)) hne
  | succ q => rw [innerF]; rw [if_neg hne]; dsimp only; rw [h]; rfl

theorem slice_from (w : World) (B off N cap i : Nat) (h1 : i ≤ N) (_h2 : N ≤ cap) :
    (Instr.slice 23 (.slice (some ⟨B, off, none⟩) N cap) (some (.int .i64 i)) none none).run Tryd.prog w = .ok (.slice (some ⟨B, if cap = i then off else off + i, none⟩) (N - i) (cap - i)) w := by
  have k1 : (0 : Int) ≤ (i : Int) := by omega
  have k2 : (i : Int) ≤ (N : Int) := by omega
  by_cases h : cap = i
  · rw [if_pos h]; simp [go_sem, h, k1, k2, sliced]
  · rw [if_neg h]; simp [go_sem, h, k1, k2, sliced]

theorem drewN_below (w : World) (q : Nat) : Below w.heap.size w (w.drewN q) := ⟨rfl, rfl, rfl, Nat.le_refl _, fun _ _ => rfl⟩

theorem vals_of_rd {w : World} {B i : Nat} {raw : Array Value} {t : TypeId} {fr : Nat × Nat} {l : List UInt8} (hb : w.heap[B]? = some (.cells raw t fr)) (h : Rd w B i l) (_hle : i + l.length ≤ raw.size) :
    (raw.toList.drop i).take l.length = vals l := by
  apply List.ext_getElem?
  intro j
  rw [List.getElem?_take]
  split
  · rename_i hj
    have := h j hj
    simp only [World.cell?, hb, Option.isSome_none, Bool.false_eq_true, if_false] at this
    rw [List.getElem?_drop, Array.getElem?_toList, this]
    simp [vals, List.getElem?_map, List.getElem?_eq_getElem hj, List.getD_eq_getElem?_getD]
  · rename_i hj
    rw [List.getElem?_eq_none (by rw [vals_length]; omega)]

theorem size5 : (Tryd.prog.info? 5).map (·.size) = some 1 := by kernel_rfl

def WritePost {σ : Type} (c o B cap : Nat) (lv pv : Value) (J : σ → World → Prop) (x : LB × σ) (e : Ending) (w' : World) : Prop :=
  e = .returned (.tuple #[]) ∧ J x.2 w' ∧ LBS c o B cap lv pv x.1.bs.length 0 x.1.bs x.1.mid x.1.esc w' ∧ x.1.bs.length < cap

end Go.Proofs.YtdljobmhnnegiaaDoor
