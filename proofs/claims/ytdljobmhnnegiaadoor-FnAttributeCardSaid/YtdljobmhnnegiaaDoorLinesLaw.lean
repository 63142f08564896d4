/- The law of FnLines, in plain Lean: what linesZ hands on. -/
import Derived.Test.YtdljobmhnnegiaaDoorZZLines
namespace Go.Proofs.YtdljobmhnnegiaaDoor
open Go.RowKit

/-- No tab, no marker of framing, no escape. -/
def PlainB (l : List UInt8) : Prop := ∀ c ∈ l, c ≠ 9 ∧ c ≠ 22 ∧ c ≠ 27

theorem eolF_plain : ∀ (l : List UInt8) (i : Nat), (∀ c ∈ l, c ≠ 22 ∧ c ≠ 27) → (eolF false i l = (none, false) ∧ 10 ∉ l) ∨ (∃ j, eolF false i l = (some (i + j, 1), false) ∧ j < l.length ∧ l[j]? = some 10 ∧ 10 ∉ l.take j)
  | [], i, _ => .inl ⟨rfl, by simp⟩
  | c :: r, i, h => by
    have hc := h c (by simp)
    by_cases h10 : c = 10
    · right
      refine ⟨0, ?_, by simp, by simp [h10], by simp⟩
      unfold eolF
      rw [if_pos h10]; rfl
    · have e : eolF false i (c :: r) = eolF false (i + 1) r := by
        conv => lhs; unfold eolF
        rw [if_neg h10, if_neg (by simp), if_neg hc.2, if_neg (fun hh => hc.1 hh.1)]
      rcases eolF_plain r (i + 1) (fun c' hc' => h c' (by simp [hc'])) with ⟨a1, a2⟩ | ⟨j, a1, a2, a3, a4⟩
      · left
        exact ⟨e.trans a1, by simp only [List.mem_cons, not_or]; exact ⟨fun hh => h10 hh.symm, a2⟩⟩
      · right
        refine ⟨j + 1, ?_, by simp; omega, by simpa using a3, ?_⟩
        · rw [e, a1]; congr 3; omega
        · simp only [List.take_succ_cons, List.mem_cons, not_or]
          exact ⟨fun hh => h10 hh.symm, a4⟩

/-- What holds of each text that was handed on, W bytes having been written. -/
def OkE (cap W : Nat) (p : List UInt8 × Bool) : Prop := (0 < p.1.length ∧ p.1.length ≤ cap) ∧ 10 ∉ p.1.dropLast ∧ (p.2 = true → p.1.getLast? = some 10) ∧ (p.2 = false → p.1.getLast? = some 10 → cap ≤ W)
theorem OkE.mono {cap W W' : Nat} {p : List UInt8 × Bool} (h : OkE cap W p) (hw : W ≤ W') : OkE cap W' p := ⟨h.1, h.2.1, h.2.2.1, fun a b => Nat.le_trans (h.2.2.2 a b) hw⟩

structure InI (cap n : Nat) (W : List UInt8) (x : IS (List (List UInt8 × Bool))) : Prop where
  cat : (x.s.map (·.1)).flatten ++ x.rest = W
  pl : PlainB W
  esc : x.esc = false
  len : x.i + x.rest.length = n
  le : n ≤ cap
  mid : x.mid = true → cap ≤ W.length
  ok : ∀ p ∈ x.s, OkE cap W.length p

theorem InI.rest_plain {cap n : Nat} {W : List UInt8} {x : IS (List (List UInt8 × Bool))} (h : InI cap n W x) : PlainB x.rest := fun c hc => h.pl c (by rw [← h.cat]; exact List.mem_append_right _ hc)

theorem take_last {l : List UInt8} {j : Nat} (hj : l[j]? = some 10) (hn : 10 ∉ l.take j) : 10 ∉ (l.take (j + 1)).dropLast ∧ (l.take (j + 1)).getLast? = some 10 := by
  have hlt : j < l.length := by
    rcases Nat.lt_or_ge j l.length with h | h
    · exact h
    · rw [List.getElem?_eq_none h] at hj; cases hj
  have e : l.take (j + 1) = l.take j ++ [10] := by
    rw [List.take_add_one, hj]; rfl
  rw [e]
  exact ⟨by rw [List.dropLast_concat]; exact hn, by simp⟩

theorem InI.line {cap n : Nat} {W : List UInt8} {x : IS (List (List UInt8 × Bool))} (h : InI cap n W x) {j : Nat} (hj : x.rest[j]? = some 10) (hn : 10 ∉ x.rest.take j) (hlt : j < x.rest.length) :
    InI cap n W (lineF lineZ partZ { x with esc := false } (j + 1)) := by
  have hl := h.len
  have hle := h.le
  have ht := take_last hj hn
  refine ⟨?_, h.pl, rfl, ?_, h.le, fun hh => by simp [lineF] at hh, ?_⟩
  · unfold lineF lineZ partZ
    dsimp only
    have := h.cat
    split <;> simp [← this]
  · unfold lineF
    dsimp only
    rw [List.length_drop]
    omega
  · intro p hp
    unfold lineF at hp
    dsimp only at hp
    split at hp
    · rename_i hm
      unfold partZ at hp
      rcases List.mem_append.1 hp with hp | hp
      · exact h.ok p hp
      · rw [List.mem_singleton] at hp
        subst hp
        exact ⟨⟨by dsimp only; rw [List.length_take]; omega, by dsimp only; rw [List.length_take]; omega⟩, ht.1, fun hh => by (cases hh), fun _ _ => h.mid hm⟩
    · unfold lineZ at hp
      rcases List.mem_append.1 hp with hp | hp
      · exact h.ok p hp
      · rw [List.mem_singleton] at hp
        subst hp
        exact ⟨⟨by dsimp only; rw [List.length_take]; omega, by dsimp only; rw [List.length_take]; omega⟩, ht.1, fun _ => ht.2, fun hh _ => by (cases hh)⟩

theorem indexByte_none : ∀ (l : List UInt8), 9 ∉ l → Lib.indexByte l 9 = -1
  | [], _ => by simp [Lib.indexByte]
  | b :: l, h => by
    have ih := indexByte_none l (fun hh => h (by simp [hh]))
    have hb : ¬ b = 9 := fun hh => h (by simp [hh])
    simp [Lib.indexByte, hb, ih]

theorem InI.inner {cap n : Nat} {W : List UInt8} : ∀ (q : Nat) (x : IS (List (List UInt8 × Bool))), InI cap n W x → x.rest.length ≤ q → InI cap n W (innerF lineZ partZ q x) ∧ 10 ∉ (innerF lineZ partZ q x).rest
  | 0, x, h, hq => by
    have hr : x.rest = [] := List.eq_nil_of_length_eq_zero (by omega)
    exact ⟨h, by show 10 ∉ x.rest; rw [hr]; simp⟩
  | q + 1, x, h, hq => by
    by_cases hr : x.rest = []
    · unfold innerF
      rw [if_pos hr]
      exact ⟨h, by rw [hr]; simp⟩
    · rcases eolF_plain x.rest 0 (fun c hc => ⟨(h.rest_plain c hc).2.1, (h.rest_plain c hc).2.2⟩) with ⟨a1, a2⟩ | ⟨j, a1, a2, a3, a4⟩
      · have e : innerF lineZ partZ (q + 1) x = { x with esc := false } := by
          unfold innerF
          rw [if_neg hr, h.esc, a1]
          dsimp only
          unfold tabF
          dsimp only
          split
          · rfl
          · rw [indexByte_none x.rest (fun hh => (h.rest_plain 9 hh).1 rfl), if_neg (by omega)]
        rw [e]
        exact ⟨⟨h.cat, h.pl, rfl, h.len, h.le, h.mid, h.ok⟩, a2⟩
      · have e : innerF lineZ partZ (q + 1) x = innerF lineZ partZ q (lineF lineZ partZ { x with esc := false } (j + 1)) := by
          conv => lhs; unfold innerF
          rw [if_neg hr, h.esc, a1, Nat.zero_add]
        rw [e]
        exact InI.inner q _ (h.line a3 a4 a2) (by unfold lineF; dsimp only; rw [List.length_drop]; omega)

structure InB (cap : Nat) (W : List UInt8) (b : LB) (st : List (List UInt8 × Bool)) : Prop where
  cat : (st.map (·.1)).flatten ++ b.bs = W
  esc : b.esc = false
  le : b.bs.length < cap
  no : 10 ∉ b.bs
  mid : b.mid = true → cap ≤ W.length
  ok : ∀ p ∈ st, OkE cap W.length p

theorem InB.round {cap : Nat} {W chunk : List UInt8} {b : LB} {st : List (List UInt8 × Bool)} (h : InB cap W b st) (h4 : 4 ≤ cap) (hp : PlainB (W ++ chunk)) (hfit : b.bs.length + chunk.length ≤ cap) :
    InB cap (W ++ chunk) (roundF lineZ partZ cap b chunk st).1 (roundF lineZ partZ cap b chunk st).2 := by
  have hI : InI cap (b.bs.length + chunk.length) (W ++ chunk) ⟨0, b.bs ++ chunk, b.mid, b.esc, st⟩ := by
    refine ⟨?_, hp, h.esc, by simp, hfit, fun hh => Nat.le_trans (h.mid hh) (by simp), fun p hpp => (h.ok p hpp).mono (by simp)⟩
    dsimp only
    rw [← List.append_assoc, h.cat]
  have hin := InI.inner (b.bs.length + chunk.length) _ hI (by simp)
  unfold roundF
  obtain ⟨x, hx⟩ : ∃ x, x = innerF lineZ partZ (b.bs.length + chunk.length) ⟨0, b.bs ++ chunk, b.mid, b.esc, st⟩ := ⟨_, rfl⟩
  rw [← hx] at hin ⊢
  obtain ⟨hi, hno⟩ := hin
  have hl := hi.len
  have hle := hi.le
  unfold endF
  split
  · rename_i hc
    have hrl : x.rest.length = cap := by omega
    have ht1 := trimFrom_gt x.rest 4 1 (by omega) (by omega)
    have htle := trimFrom_le x.rest 4 1
    have ht : 0 < trimU x.rest := by unfold trimU; omega
    have hWl : cap ≤ (W ++ chunk).length := by rw [← hi.cat, List.length_append]; omega
    refine ⟨?_, hi.esc, by dsimp only; rw [List.length_drop]; omega, fun hh => hno (List.mem_of_mem_drop hh), fun _ => hWl, fun p hpp => ?_⟩
    · unfold partZ
      dsimp only
      have := hi.cat
      simp [← this]
    · unfold partZ at hpp
      rcases List.mem_append.1 hpp with hpp | hpp
      · exact hi.ok p hpp
      · rw [List.mem_singleton] at hpp
        subst hpp
        exact ⟨⟨by dsimp only; rw [List.length_take]; omega, by dsimp only; rw [List.length_take]; omega⟩, fun hh => hno (List.mem_of_mem_take ((List.dropLast_sublist _).subset hh)), fun hh => by (cases hh), fun _ _ => hWl⟩
  · rename_i hc
    refine ⟨hi.cat, hi.esc, ?_, hno, hi.mid, hi.ok⟩
    dsimp only
    omega

theorem InB.write {cap : Nat} (h4 : 4 ≤ cap) : ∀ (k : Nat) (W l : List UInt8) (x : LB × List (List UInt8 × Bool)), InB cap W x.1 x.2 → PlainB (W ++ l) → l.length ≤ k → InB cap (W ++ l) (writeF lineZ partZ cap k x l).1 (writeF lineZ partZ cap k x l).2
  | 0, W, l, x, h, hp, hk => by
    have hl : l = [] := List.eq_nil_of_length_eq_zero (by omega)
    subst hl
    rw [List.append_nil]
    exact h
  | k + 1, W, l, x, h, hp, hk => by
    by_cases hl : l = []
    · subst hl
      unfold writeF
      rw [if_pos rfl, List.append_nil]
      exact h
    · rw [writeF_step _ _ _ _ _ _ hl]
      have hpos : 0 < l.length := by cases l with | nil => exact absurd rfl hl | cons a b => simp
      have hlt := h.le
      obtain ⟨m, hm⟩ : ∃ m, m = min (cap - x.1.bs.length) l.length := ⟨_, rfl⟩
      rw [← hm]
      have hm0 : 0 < m := by omega
      have hspl : W ++ l = (W ++ l.take m) ++ l.drop m := by rw [List.append_assoc, List.take_append_drop]
      have hr := h.round (chunk := l.take m) h4 (fun c hc => hp c (by rw [hspl]; exact List.mem_append_left _ hc)) (by rw [List.length_take]; omega)
      have := InB.write h4 k (W ++ l.take m) (l.drop m) _ hr (by rw [← hspl]; exact hp) (by rw [List.length_drop]; omega)
      rw [hspl]
      exact this

theorem InB.writes {cap : Nat} (h4 : 4 ≤ cap) : ∀ (ps : List (List UInt8)) (W : List UInt8) (x : LB × List (List UInt8 × Bool)), InB cap W x.1 x.2 → PlainB (W ++ ps.flatten) →
    InB cap (W ++ ps.flatten) (ps.foldl (fun x p => writeF lineZ partZ cap p.length x p) x).1 (ps.foldl (fun x p => writeF lineZ partZ cap p.length x p) x).2
  | [], W, x, h, hp => by simpa using h
  | p :: ps, W, x, h, hp => by
    rw [List.flatten_cons, ← List.append_assoc] at hp ⊢
    exact InB.writes h4 ps (W ++ p) _ (InB.write h4 p.length W p x h (fun c hc => hp c (List.mem_append_left _ hc)) (Nat.le_refl _)) hp

/-- All that is handed on. -/
theorem linesZ_law {cap : Nat} (h4 : 4 ≤ cap) (ps : List (List UInt8)) (hp : PlainB ps.flatten) :
    ((linesZ cap ps).map (·.1)).flatten = ps.flatten ∧ ∀ p ∈ linesZ cap ps, OkE cap ps.flatten.length p := by
  have h0 : InB cap [] (⟨[], false, false⟩ : LB) [] := ⟨rfl, rfl, by show 0 < cap; omega, by simp, fun hh => by (cases hh), fun p hpp => by simp at hpp⟩
  have h := InB.writes h4 ps [] (⟨[], false, false⟩, []) h0 (by simpa using hp)
  rw [List.nil_append] at h
  unfold linesZ
  have hw : writesZ cap ps = ps.foldl (fun x p => writeF lineZ partZ cap p.length x p) (⟨[], false, false⟩, []) := rfl
  rw [← hw] at h
  obtain ⟨x, hx⟩ : ∃ x, x = writesZ cap ps := ⟨_, rfl⟩
  rw [← hx] at h ⊢
  unfold flushF
  split
  · rename_i hb
    have := h.cat
    rw [hb, List.append_nil] at this
    exact ⟨this, h.ok⟩
  · rename_i hb
    refine ⟨?_, fun p hpp => ?_⟩
    · unfold partZ
      have := h.cat
      simp [← this]
    · unfold partZ at hpp
      rcases List.mem_append.1 hpp with hpp | hpp
      · exact h.ok p hpp
      · rw [List.mem_singleton] at hpp
        subst hpp
        exact ⟨⟨List.length_pos_iff.2 hb, Nat.le_of_lt h.le⟩, fun hh => h.no ((List.dropLast_sublist _).subset hh), fun hh => by (cases hh), fun _ hh => absurd (List.mem_of_getLast? hh) h.no⟩

theorem length_le_flatten {α : Type} : ∀ (l : List (List α)), (∀ p ∈ l, 0 < p.length) → l.length ≤ l.flatten.length
  | [], _ => by simp
  | p :: l, h => by
    have := length_le_flatten l (fun q hq => h q (by simp [hq]))
    have := h p (by simp)
    rw [List.flatten_cons, List.length_append, List.length_cons]
    omega
theorem linesZ_few {cap : Nat} (h4 : 4 ≤ cap) (ps : List (List UInt8)) (hp : PlainB ps.flatten) : (linesZ cap ps).length ≤ ps.flatten.length := by
  obtain ⟨h1, h2⟩ := linesZ_law h4 ps hp
  have := length_le_flatten ((linesZ cap ps).map (·.1)) (fun p hpp => by
    obtain ⟨e, he, rfl⟩ := List.mem_map.1 hpp
    exact (h2 e he).1.1)
  rw [h1, List.length_map] at this
  exact this

end Go.Proofs.YtdljobmhnnegiaaDoor
