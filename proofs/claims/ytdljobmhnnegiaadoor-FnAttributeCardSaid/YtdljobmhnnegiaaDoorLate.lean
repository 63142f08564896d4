/- Regions that draw their order, load cells first, and store into these very cells at their end: what comes late (it waits for each load) need not leave the condition S. -/
import Derived.Deep.RegionHeld3
import Derived.Deep.AppendLies
namespace Go.Proofs.YtdljobmhnnegiaaDoor
open Go

section
variable {P : Program} {ops : Array Oper} {Q : Exit → Act → World → Prop} {md : Region.Mode} {S : World → Prop} {late : Nat → Bool}

/-- Whatever order is picked; S holds behind every operation that is not late. -/
def LateAny (P : Program) (md : Region.Mode) (ops : Array Oper) (Q : Exit → Act → World → Prop) (S : World → Prop) (late : Nat → Bool) : Nat → Array Bool → Act → World → Prop
  | 0, l, a, w => Region.ready md ops l = [] ∧ Q .normal a w
  | f + 1, l, a, w => (Region.ready md ops l = [] → Q .normal a w) ∧
      ∀ i ∈ Region.ready md ops l, wpOp P ops Q i (fun a' w' => (late i = false → S w') ∧ LateAny P md ops Q S late f (l.setIfInBounds i true) a' w') a w

theorem LateAny.any : ∀ (f : Nat) (l : Array Bool) (a : Act) (w : World), LateAny P md ops Q S late f l a w → wpAny P md ops Q f l a w
  | 0, _, _, _, h => h
  | f + 1, _, _, _, h => ⟨h.1, fun i hi => wpOp_mono (fun a' w' h' => LateAny.any f _ a' w' h'.2) (h.2 i hi)⟩

/-- All that is late waits for number i. -/
def lateWaits (md : Region.Mode) (ops : Array Oper) (late : Nat → Bool) (i : Nat) : Bool :=
  (List.range ops.size).all fun j => !late j || match ops[j]? with
    | some oj => oj.after.any fun e => Region.binds md e && e.on == i
    | none => true

theorem lateWaits_spec {i : Nat} (h : lateWaits md ops late i = true) (j : Nat) (oj : Oper) (hj : ops[j]? = some oj) (hno : ∀ e ∈ oj.after, Region.binds md e = true → e.on ≠ i) : late j = false := by
  simp only [lateWaits, List.all_eq_true, List.mem_range] at h
  have h1 := h j (Array.getElem?_eq_some_iff.1 hj).1
  simp only [hj, Bool.or_eq_true, Bool.not_eq_true'] at h1
  rcases h1 with h1 | h1
  · exact h1
  · obtain ⟨e, he, hb⟩ := Array.any_eq_true'.1 h1
    simp only [Bool.and_eq_true, beq_iff_eq] at hb
    exact absurd hb.2 (hno e he hb.1)

theorem LateAny.first {i : Nat} {oi : Oper} {v : Value} (hi : ops[i]? = some oi) (hsel : ∀ (j : Nat) (o : Oper) cs b, ops[j]? = some o → o.op ≠ .select cs b)
    (hQ : ∀ c a w, Q (.panic c) (a.put oi.dst v) w → Q (.panic c) a w) (hlw : lateWaits md ops late i = true) :
    ∀ (f : Nat) (l : Array Bool) (a : Act) (w : World),
      (∀ j oj, ops[j]? = some oj → j ≠ i → l.getD j true = false → (∀ e ∈ oj.after, Region.binds md e = true → e.on ≠ i) → oi.apart ops oj = true) →
      i ∈ Region.ready md ops l → YieldsIf P ops S oi v a → S w →
      LateAny P md ops Q S late f (l.setIfInBounds i true) (a.put oi.dst v) w → LateAny P md ops Q S late (f + 1) l a w := by
  intro f
  induction f with
  | zero =>
    intro l a w _ hr hy hS H
    refine ⟨fun h => (by rw [h] at hr; cases hr), fun j hj => ?_⟩
    by_cases hji : j = i
    · subst hji; exact hy.wpOp hi hS ⟨fun _ => hS, H⟩
    · have := ready_mono hj hji
      rw [H.1] at this
      cases this
  | succ f ih =>
    intro l a w hfree hr hy hS H
    refine ⟨fun h => (by rw [h] at hr; cases hr), fun j hj => ?_⟩
    by_cases hji : j = i
    · subst hji; exact hy.wpOp hi hS ⟨fun _ => hS, H⟩
    · have h1 := H.2 j (ready_mono hj hji)
      obtain ⟨hjun, oj, hoj, hall⟩ := mem_ready.1 hj
      have hnot : ∀ e ∈ oj.after, Region.binds md e = true → e.on ≠ i := fun e he hb heq => by
        have h1 := hall e he hb
        have h0 := (mem_ready.1 hr).1
        rw [heq] at h1
        rcases Nat.lt_or_ge i l.size with h' | h'
        · simp [h'] at h0 h1; rw [h0] at h1; cases h1
        · simp [Array.getElem?_eq_none h'] at h1
      have hlate : late j = false := lateWaits_spec hlw j oj hoj hnot
      have h2 := wpOp_putIf hoj (hfree j oj hoj hji hjun hnot) (fun cs b => hsel i oi cs b hi) (fun cs b => hsel j oj cs b hoj) hQ hy h1
      refine wpOp_mono (fun a' w' h3 => ⟨h3.2.1, ih (l.setIfInBounds j true) a' w' ?_ (ready_mono hr (Ne.symm hji)) h3.1 (h3.2.1 hlate) ?_⟩) h2
      · intro k ok hk hki hun hno
        refine hfree k ok hk hki ?_ hno
        by_cases hjk : j = k
        · subst hjk; exact hjun
        · rw [getD_set_ne true hjk] at hun; exact hun
      · rw [Array.setIfInBounds_comm _ _ hji]
        exact h3.2.2

/-- Take number i first. -/
theorem LateAny.take {i : Nat} {oi : Oper} {v : Value} {f : Nat} {l : Array Bool} {a : Act} {w : World} (hi : ops[i]? = some oi)
    (hs : Region.noSelect ops = true) (hf : Region.free md ops l i = true) (hr : (Region.ready md ops l).contains i = true) (hlw : lateWaits md ops late i = true)
    (hQ : ∀ c a w, Q (.panic c) (a.put oi.dst v) w → Q (.panic c) a w) (hy : YieldsIf P ops S oi v a) (hS : S w)
    (h : LateAny P md ops Q S late f (l.setIfInBounds i true) (a.put oi.dst v) w) : LateAny P md ops Q S late (f + 1) l a w :=
  LateAny.first hi (Region.noSelect_spec hs) hQ hlw f l a w (Region.free_spec hi hf) (by simpa using hr) hy hS h

/-- Each of these comes up next. -/
def LateReady (P : Program) (md : Region.Mode) (ops : Array Oper) (Q : Exit → Act → World → Prop) (S : World → Prop) (late : Nat → Bool) (f : Nat) (l : Array Bool) (a : Act) (w : World) (rs : List Nat) : Prop :=
  ∀ i ∈ rs, wpOp P ops Q i (fun a' w' => (late i = false → S w') ∧ LateAny P md ops Q S late f (l.setIfInBounds i true) a' w') a w
theorem LateReady.nil {f : Nat} {l : Array Bool} {a : Act} {w : World} : LateReady P md ops Q S late f l a w [] := fun _ h => by cases h
theorem LateReady.cons {f : Nat} {l : Array Bool} {a : Act} {w : World} {i : Nat} {o : Oper} {rs : List Nat} (ho : ops[i]? = some o)
    (h : ∀ K' : Act → World → Prop, Shut (∀ a w, (late i = false → S w) → LateAny P md ops Q S late f (l.setIfInBounds i true) a w → K' a w) → if Region.wanted o (yielded ops a.tmps) = true then Oper.wp P o a w K' Q else K' (a.put o.dst undef) w)
    (hs : LateReady P md ops Q S late f l a w rs) : LateReady P md ops Q S late f l a w (i :: rs) := fun j hj => by
  rcases List.mem_cons.1 hj with rfl | hj
  · exact wpOp_step ho (fun K' hK => h K' (fun a w hS hW => hK a w ⟨hS, hW⟩))
  · exact hs j hj
theorem LateAny.ready {rs : List Nat} {f : Nat} {l : Array Bool} {a : Act} {w : World} (hr : Region.ready md ops l = rs) (hne : rs ≠ [])
    (h : LateReady P md ops Q S late f l a w rs) : LateAny P md ops Q S late (f + 1) l a w :=
  ⟨fun h0 => absurd (hr ▸ h0) hne, hr ▸ h⟩
theorem LateAny.done {l : Array Bool} {a : Act} {w : World} (hr : Region.ready md ops l = []) (h : Q .normal a w) : ∀ f, LateAny P md ops Q S late f l a w
  | 0 => ⟨hr, h⟩
  | _ + 1 => ⟨fun _ => h, by rw [hr]; simp⟩
theorem wp_region_late {id : Nat} {a : Act} {w : World} (hm : P.follows .mixedOrders = true) (S : World → Prop) (late : Nat → Bool)
    (h : LateAny P .any ops Q S late ops.size (Array.replicate ops.size false) a w.drew) : (Code.region id ops true).wp P Q a w :=
  wp_region_any hm (LateAny.any _ _ _ _ h)
end
end Go.Proofs.YtdljobmhnnegiaaDoor
