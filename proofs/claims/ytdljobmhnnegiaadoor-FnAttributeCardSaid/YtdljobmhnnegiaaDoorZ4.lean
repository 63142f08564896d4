/- The plain laws of the converter: lines through buffers, concatenation, framing, stories, single lines. -/
import Derived.Test.YtdljobmhnnegiaaDoorConv
import Derived.Test.YtdljobmhnnegiaaDoorLinesLaw
import Derived.Test.YtdljobmhnnegiaaDoorZ2
import Derived.Lib.TrimAscii

/- What a line buffer hands on, is, one behind the other, what was written to it: over any callbacks. -/
namespace Go.Proofs.YtdljobmhnnegiaaDoor

section
variable {σ : Type} {L P : σ → List UInt8 → σ} {T : List UInt8} {J : List UInt8 → σ → Prop}

theorem seq_tab (hP : ∀ a l r s, J a s → l ≠ [] → a ++ l ++ r = T → J (a ++ l) (P s l)) {W a : List UInt8} {x : IS σ} (hj : J a x.s) (hw : a ++ x.rest = W) (hT : ∃ R, W ++ R = T) (hr : x.rest ≠ []) :
    ∃ a', J a' (tabF P x).s ∧ a' ++ (tabF P x).rest = W ∧ (tabF P x).i + (tabF P x).rest.length = x.i + x.rest.length := by
  unfold tabF
  split
  · exact ⟨a, hj, hw, rfl⟩
  · split
    · split
      · rename_i h0 h1
        have hb := indexByte_lt x.rest 9
        obtain ⟨R, hR⟩ := hT
        obtain ⟨k, hk⟩ : ∃ k, k = (Lib.indexByte x.rest 9).toNat + 1 := ⟨_, rfl⟩
        rw [← hk]
        refine ⟨a ++ x.rest.take k, hP a _ (x.rest.drop k ++ R) x.s hj ?_ ?_, ?_, ?_⟩
        · intro he
          have := congrArg List.length he
          rw [List.length_take, List.length_nil] at this
          have h3 : 0 < x.rest.length := List.length_pos_iff.2 hr
          omega
        · rw [← hR, ← hw, ← List.append_assoc, List.append_assoc a, List.take_append_drop]
        · rw [List.append_assoc, List.take_append_drop, hw]
        · dsimp only
          rw [List.length_drop]
          omega
      · exact ⟨a, hj, hw, rfl⟩
    · exact ⟨a, hj, hw, rfl⟩

theorem seq_inner (hL : ∀ a l r s, J a s → l ≠ [] → a ++ l ++ r = T → J (a ++ l) (L s l)) (hP : ∀ a l r s, J a s → l ≠ [] → a ++ l ++ r = T → J (a ++ l) (P s l)) {W : List UInt8} (hT : ∃ R, W ++ R = T) :
    ∀ (q : Nat) (a : List UInt8) (x : IS σ), J a x.s → a ++ x.rest = W →
    ∃ a', J a' (innerF L P q x).s ∧ a' ++ (innerF L P q x).rest = W ∧ (innerF L P q x).i + (innerF L P q x).rest.length = x.i + x.rest.length
  | 0, a, x, hj, hw => ⟨a, hj, hw, rfl⟩
  | q + 1, a, x, hj, hw => by
    unfold innerF
    split
    · exact ⟨a, hj, hw, rfl⟩
    · rename_i hr
      split
      · rename_i j k he
        have hb := eolF_bound x.rest x.esc 0 j k he
        obtain ⟨R, hR⟩ := hT
        have hne : x.rest.take (j + k) ≠ [] := fun h => by
          have := congrArg List.length h
          rw [List.length_take, List.length_nil] at this
          have h2 : 0 < x.rest.length := List.length_pos_iff.2 hr
          omega
        have hsp : a ++ x.rest.take (j + k) ++ (x.rest.drop (j + k) ++ R) = T := by
          rw [← hR, ← hw, ← List.append_assoc, List.append_assoc a, List.take_append_drop]
        obtain ⟨a', h1, h2, h3⟩ := seq_inner hL hP ⟨R, hR⟩ q (a ++ x.rest.take (j + k)) (lineF L P { x with esc := (eolF x.esc 0 x.rest).2 } (j + k))
          (by unfold lineF; dsimp only; split
              · exact hP _ _ _ _ hj hne hsp
              · exact hL _ _ _ _ hj hne hsp) (by unfold lineF; dsimp only; rw [List.append_assoc, List.take_append_drop, hw])
        refine ⟨a', h1, h2, h3.trans ?_⟩
        unfold lineF
        dsimp only
        rw [List.length_drop]
        omega
      · exact seq_tab hP (x := { x with esc := (eolF x.esc 0 x.rest).2 }) hj hw hT hr

/-- A round: what was handed on, and what lies in the buffer. -/
theorem seq_round (hL : ∀ a l r s, J a s → l ≠ [] → a ++ l ++ r = T → J (a ++ l) (L s l)) (hP : ∀ a l r s, J a s → l ≠ [] → a ++ l ++ r = T → J (a ++ l) (P s l)) {cap : Nat} (h4 : 4 ≤ cap) {a ch R : List UInt8} {b : LB} {s : σ} (hj : J a s)
    (hw : a ++ b.bs ++ ch ++ R = T) (hfit : b.bs.length + ch.length ≤ cap) :
    ∃ a', J a' (roundF L P cap b ch s).2 ∧ a' ++ (roundF L P cap b ch s).1.bs = a ++ b.bs ++ ch ∧ (roundF L P cap b ch s).1.bs.length < cap := by
  unfold roundF
  obtain ⟨a', h1, h2, h3⟩ := seq_inner hL hP (W := a ++ b.bs ++ ch) ⟨R, hw⟩ (b.bs.length + ch.length) a ⟨0, b.bs ++ ch, b.mid, b.esc, s⟩ hj (by simp)
  obtain ⟨x, hx⟩ : ∃ x, x = innerF L P (b.bs.length + ch.length) ⟨0, b.bs ++ ch, b.mid, b.esc, s⟩ := ⟨_, rfl⟩
  rw [← hx] at h1 h2 h3 ⊢
  dsimp only at h3
  rw [List.length_append] at h3
  unfold endF
  split
  · rename_i hc
    have hrl : x.rest.length = cap := by omega
    have ht1 := trimFrom_gt x.rest 4 1 (by omega) (by omega)
    have htle := trimFrom_le x.rest 4 1
    have ht : 0 < trimU x.rest := by unfold trimU; omega
    refine ⟨a' ++ x.rest.take (trimU x.rest), hP a' _ (x.rest.drop (trimU x.rest) ++ R) _ h1 ?_ ?_, ?_, ?_⟩
    · intro h
      have := congrArg List.length h
      rw [List.length_take, List.length_nil] at this
      omega
    · rw [← hw, ← h2, ← List.append_assoc, List.append_assoc a', List.take_append_drop]
    · dsimp only
      rw [List.append_assoc, List.take_append_drop, h2]
    · dsimp only
      rw [List.length_drop]
      unfold trimU at ht ⊢
      omega
  · rename_i hc
    refine ⟨a', h1, h2, ?_⟩
    dsimp only
    omega

theorem seq_write (hL : ∀ a l r s, J a s → l ≠ [] → a ++ l ++ r = T → J (a ++ l) (L s l)) (hP : ∀ a l r s, J a s → l ≠ [] → a ++ l ++ r = T → J (a ++ l) (P s l)) {cap : Nat} (h4 : 4 ≤ cap) :
    ∀ (k : Nat) (a l R : List UInt8) (x : LB × σ), J a x.2 → a ++ x.1.bs ++ l ++ R = T → x.1.bs.length < cap → l.length ≤ k →
    ∃ a', J a' (writeF L P cap k x l).2 ∧ a' ++ (writeF L P cap k x l).1.bs = a ++ x.1.bs ++ l ∧ (writeF L P cap k x l).1.bs.length < cap
  | 0, a, l, R, x, hj, hw, hlt, hk => by
    have hl : l = [] := List.eq_nil_of_length_eq_zero (by omega)
    subst hl
    exact ⟨a, hj, by rw [List.append_nil]; rfl, hlt⟩
  | k + 1, a, l, R, x, hj, hw, hlt, hk => by
    by_cases hl : l = []
    · subst hl
      rw [writeF_nil]
      exact ⟨a, hj, by rw [List.append_nil], hlt⟩
    · rw [writeF_step _ _ _ _ _ _ hl]
      have hpos : 0 < l.length := List.length_pos_iff.2 hl
      obtain ⟨m, hm⟩ : ∃ m, m = min (cap - x.1.bs.length) l.length := ⟨_, rfl⟩
      rw [← hm]
      obtain ⟨a1, h1, h2, h3⟩ := seq_round hL hP h4 (ch := l.take m) (R := l.drop m ++ R) hj (by rw [← hw, ← List.append_assoc, List.append_assoc (a ++ x.1.bs), List.take_append_drop]) (by rw [List.length_take]; omega)
      obtain ⟨a2, h4', h5, h6⟩ := seq_write hL hP h4 k a1 (l.drop m) R _ h1 (by rw [h2, ← hw, List.append_assoc (a ++ x.1.bs), List.take_append_drop]) h3 (by rw [List.length_drop]; omega)
      refine ⟨a2, h4', ?_, h6⟩
      rw [h5, h2, List.append_assoc (a ++ x.1.bs), List.take_append_drop]

theorem seq_flush (hP : ∀ a l r s, J a s → l ≠ [] → a ++ l ++ r = T → J (a ++ l) (P s l)) {a R : List UInt8} {b : LB} {s : σ} (hj : J a s) (hw : a ++ b.bs ++ R = T) :
    J (a ++ b.bs) (flushF P b s).2 ∧ (flushF P b s).1.bs = [] := by
  unfold flushF
  split
  · rename_i hb
    rw [hb, List.append_nil]
    exact ⟨hj, rfl⟩
  · rename_i hb
    exact ⟨hP _ _ _ _ hj hb hw, rfl⟩
end
end Go.Proofs.YtdljobmhnnegiaaDoor

/- Whole lines through a line buffer: each is handed on as it is, whatever the pieces are in which they come. -/
namespace Go.Proofs.YtdljobmhnnegiaaDoor

theorem eolF_line : ∀ (b r : List UInt8) (i : Nat), 10 ∉ b → 27 ∉ b → (22 ∈ b → i = 0 ∧ 22 ∉ b.tail) → eolF false i (b ++ 10 :: r) = (some (i + b.length, 1), false)
  | [], r, i, _, _, _ => by
    show eolF false i (10 :: r) = _
    unfold eolF
    rw [if_pos rfl]; rfl
  | c :: b, r, i, h1, h2, h3 => by
    have c10 : c ≠ 10 := fun h => h1 (by simp [h])
    have c27 : c ≠ 27 := fun h => h2 (by simp [h])
    show eolF false i (c :: (b ++ 10 :: r)) = _
    unfold eolF
    rw [if_neg c10, if_neg (by simp), if_neg c27, if_neg (fun h => by
      have := h3 (by simp [h.1])
      omega)]
    rw [eolF_line b r (i + 1) (fun h => h1 (by simp [h])) (fun h => h2 (by simp [h])) (fun h => by
      have := h3 (by simp [h])
      exact absurd h this.2)]
    simp; omega
theorem eolF_part : ∀ (b : List UInt8) (i : Nat), 10 ∉ b → 27 ∉ b → (22 ∈ b → i = 0 ∧ 22 ∉ b.tail) → eolF false i b = (none, false)
  | [], i, _, _, _ => rfl
  | c :: b, i, h1, h2, h3 => by
    have c10 : c ≠ 10 := fun h => h1 (by simp [h])
    have c27 : c ≠ 27 := fun h => h2 (by simp [h])
    unfold eolF
    rw [if_neg c10, if_neg (by simp), if_neg c27, if_neg (fun h => by
      have := h3 (by simp [h.1])
      omega)]
    exact eolF_part b (i + 1) (fun h => h1 (by simp [h])) (fun h => h2 (by simp [h])) (fun h => by
      have := h3 (by simp [h])
      exact absurd h this.2)

/-- A line whose end is found: whatever comes behind. -/
def EolOk (l : List UInt8) : Prop := l ≠ [] ∧ ∀ r, ∃ j k, eolF false 0 (l ++ r) = (some (j, k), false) ∧ j + k = l.length
/-- A plain line: no end before its end, no escape, a marker at its head alone, no tab. -/
structure PlainL (b : List UInt8) : Prop where
  n10 : 10 ∉ b
  n27 : 27 ∉ b
  n22 : 22 ∉ b.tail
  n9 : 9 ∉ b
theorem PlainL.ok {b : List UInt8} (h : PlainL b) : EolOk (b ++ [10]) := by
  refine ⟨by simp, fun r => ⟨b.length, 1, ?_, by simp⟩⟩
  rw [List.append_assoc, List.singleton_append, eolF_line b r 0 h.n10 h.n27 (fun _ => ⟨rfl, h.n22⟩), Nat.zero_add]

section
variable {σ : Type} (L P : σ → List UInt8 → σ)

theorem inner_lines : ∀ (ls : List (List UInt8)) (p : List UInt8) (i q : Nat) (s : σ), (∀ l ∈ ls, EolOk l) → ls.flatten.length ≤ q →
    ∃ q', innerF L P q ⟨i, ls.flatten ++ p, false, false, s⟩ = innerF L P q' ⟨i + ls.flatten.length, p, false, false, ls.foldl L s⟩
  | [], p, i, q, s, _, hq => ⟨q, by simp⟩
  | l :: ls, p, i, q, s, h, hq => by
    obtain ⟨hne, hok⟩ := h l (by simp)
    have hpos : 0 < l.length := List.length_pos_iff.2 hne
    rw [List.flatten_cons, List.length_append] at hq
    obtain ⟨q0, rfl⟩ : ∃ q0, q = q0 + 1 := ⟨q - 1, by omega⟩
    obtain ⟨q', h2⟩ := inner_lines ls p (i + l.length) q0 (L s l) (fun x hx => h x (by simp [hx])) (by omega)
    refine ⟨q', ?_⟩
    rw [List.flatten_cons, List.append_assoc]
    conv => lhs; unfold innerF
    rw [if_neg (by simp [hne])]
    obtain ⟨j, k, he, hjk⟩ := hok (ls.flatten ++ p)
    dsimp only
    rw [he]
    dsimp only
    unfold lineF
    dsimp only
    rw [hjk, List.take_left, List.drop_left, if_neg (by simp), h2, List.length_append, List.foldl_cons, Nat.add_assoc]

theorem inner_part (p : List UInt8) (q i : Nat) (s : σ) (h : eolF false 0 p = (none, false)) (h9 : 9 ∉ p) : innerF L P q ⟨i, p, false, false, s⟩ = ⟨i, p, false, false, s⟩ := by
  cases q with
  | zero => rfl
  | succ q =>
    unfold innerF
    split
    · rfl
    · dsimp only
      rw [h]
      dsimp only
      unfold tabF
      dsimp only
      rw [if_neg (by simp), indexByte_none p h9, if_neg (by omega)]

/-- Whole lines, in one piece. -/
theorem write_lines {cap : Nat} (ls : List (List UInt8)) (s : σ) (h : ∀ l ∈ ls, EolOk l) (hc : ls.flatten.length ≤ cap) (f : Nat) (hf : ls.flatten.length ≤ f) :
    writeF L P cap f (⟨[], false, false⟩, s) ls.flatten = (⟨[], false, false⟩, ls.foldl L s) := by
  by_cases h0 : ls.flatten = []
  · rw [h0, writeF_nil]
    cases ls with
    | nil => rfl
    | cons l ls =>
      exfalso
      have := (h l (by simp)).1
      rw [List.flatten_cons] at h0
      exact this (List.append_eq_nil_iff.1 h0).1
  · have hpos : 0 < ls.flatten.length := List.length_pos_iff.2 h0
    obtain ⟨f', rfl⟩ : ∃ f', f = f' + 1 := ⟨f - 1, by omega⟩
    rw [writeF_step _ _ _ _ _ _ h0]
    dsimp only
    rw [show min (cap - ([] : List UInt8).length) ls.flatten.length = ls.flatten.length by rw [List.length_nil]; omega, List.take_length, List.drop_length, writeF_nil]
    unfold roundF
    dsimp only
    rw [List.length_nil, Nat.zero_add, List.nil_append]
    obtain ⟨q', h2⟩ := inner_lines L P ls [] 0 ls.flatten.length s h (Nat.le_refl _)
    rw [List.append_nil] at h2
    rw [h2, inner_part L P [] q' _ _ rfl (by simp)]
    unfold endF
    rw [if_neg (fun hh => by have := hh.1; dsimp only at this; omega)]
end

/-- Where a text of lines is cut: whole lines, and the beginning of one. -/
theorem cut_lines : ∀ (ls : List (List UInt8)) (X R : List UInt8), X ++ R = ls.flatten → ∃ m1 m2 p, ls = m1 ++ m2 ∧ X = m1.flatten ++ p ∧ p ++ R = m2.flatten ∧ (p = [] ∨ ∃ l r y, m2 = l :: r ∧ y ≠ [] ∧ l = p ++ y)
  | [], X, R, h => by
    have : X = [] := (List.append_eq_nil_iff.1 h).1
    exact ⟨[], [], [], rfl, by simp [this], by simpa [this] using h, .inl rfl⟩
  | l :: ls, X, R, h => by
    rw [List.flatten_cons] at h
    by_cases hl : X.length < l.length
    · refine ⟨[], l :: ls, X, rfl, rfl, by rw [List.flatten_cons]; exact h, .inr ⟨l, ls, l.drop X.length, rfl, ?_, ?_⟩⟩
      · intro h0
        have := congrArg List.length h0
        rw [List.length_drop] at this
        simp at this
        omega
      · have h1 : (X ++ R).take X.length = (l ++ ls.flatten).take X.length := by rw [h]
        rw [List.take_left, List.take_append_of_le_length (by omega)] at h1
        conv => lhs; rw [← List.take_append_drop X.length l, ← h1]
    · have h1 : (X ++ R).take l.length = (l ++ ls.flatten).take l.length := by rw [h]
      have h2 : (X ++ R).drop l.length = (l ++ ls.flatten).drop l.length := by rw [h]
      rw [List.take_left, List.take_append_of_le_length (by omega)] at h1
      rw [List.drop_left, List.drop_append_of_le_length (by omega)] at h2
      obtain ⟨m1, m2, p, e1, e2, e3, e4⟩ := cut_lines ls (X.drop l.length) R h2
      refine ⟨l :: m1, m2, p, by rw [e1]; rfl, ?_, e3, e4⟩
      rw [List.flatten_cons, List.append_assoc, ← e2]
      conv => lhs; rw [← List.take_append_drop l.length X, h1]

theorem plain_pre {b p y : List UInt8} (h : PlainL b) (hy : y ≠ []) (e : b ++ [10] = p ++ y) : eolF false 0 p = (none, false) ∧ 9 ∉ p := by
  obtain ⟨z, hz⟩ : ∃ z, b = p ++ z := by
    refine ⟨y.dropLast, ?_⟩
    have : (b ++ [10]).dropLast = (p ++ y).dropLast := by rw [e]
    rw [List.dropLast_concat, List.dropLast_append_of_ne_nil hy] at this
    exact this
  refine ⟨eolF_part p 0 (fun hh => h.n10 (by rw [hz]; simp [hh])) (fun hh => h.n27 (by rw [hz]; simp [hh])) (fun _ => ⟨rfl, fun hh => h.n22 ?_⟩), fun hh => h.n9 (by rw [hz]; simp [hh])⟩
  cases p with
  | nil => simp at hh
  | cons c p => rw [hz]; simp only [List.cons_append, List.tail_cons] at hh ⊢; exact List.mem_append_left _ hh

section
variable {σ : Type} (L P : σ → List UInt8 → σ)
/-- A plain line, of at most n bytes. -/
def LineN (n : Nat) (l : List UInt8) : Prop := ∃ b, PlainL b ∧ l = b ++ [10] ∧ l.length ≤ n
theorem LineN.ok {n : Nat} {l : List UInt8} (h : LineN n l) : EolOk l := by
  obtain ⟨b, h1, rfl, _⟩ := h
  exact h1.ok

/-- What lies in the buffer where R still comes: lines ls, all in all. -/
def Fed (cap : Nat) (ls : List (List UInt8)) (s : σ) (x : LB × σ) (R : List UInt8) : Prop :=
  ∃ l1 l2 p, ls = l1 ++ l2 ∧ x = (⟨p, false, false⟩, l1.foldl L s) ∧ p ++ R = l2.flatten ∧ (p = [] ∨ ∃ l r y, l2 = l :: r ∧ y ≠ [] ∧ l = p ++ y) ∧ p.length < cap

theorem Fed.round {cap n : Nat} (hn : n ≤ cap) (h0 : 0 < cap) {ls : List (List UInt8)} (hls : ∀ l ∈ ls, LineN n l) {s : σ} {x : LB × σ} {ch R : List UInt8} (h : Fed L cap ls s x (ch ++ R)) (hfit : x.1.bs.length + ch.length ≤ cap) :
    Fed L cap ls s (roundF L P cap x.1 ch x.2) R := by
  obtain ⟨l1, l2, p, rfl, rfl, h3, h4, h5⟩ := h
  dsimp only at hfit
  rw [← List.append_assoc] at h3
  obtain ⟨m1, m2, p', e1, e2, e3, e4⟩ := cut_lines l2 (p ++ ch) R h3
  have hp' : p'.length < cap := by
    rcases e4 with rfl | ⟨l, r, y, rfl, hy, hl⟩
    · exact h0
    · obtain ⟨b, _, _, hb⟩ := hls l (by rw [e1]; simp)
      have h1 : 0 < y.length := List.length_pos_iff.2 hy
      rw [hl, List.length_append] at hb
      omega
  have hpart : eolF false 0 p' = (none, false) ∧ 9 ∉ p' := by
    rcases e4 with rfl | ⟨l, r, y, rfl, hy, hl⟩
    · exact ⟨rfl, by simp⟩
    · obtain ⟨b, hb, hb2, _⟩ := hls l (by rw [e1]; simp)
      exact plain_pre hb hy (by rw [← hb2, hl])
  refine ⟨l1 ++ m1, m2, p', by rw [e1, List.append_assoc], ?_, e3, e4, hp'⟩
  unfold roundF
  dsimp only
  obtain ⟨q', hq⟩ := inner_lines L P m1 p' 0 (p.length + ch.length) (l1.foldl L s) (fun l hl => (hls l (by rw [e1]; simp [hl])).ok) (by
    have := congrArg List.length e2
    rw [List.length_append, List.length_append] at this
    omega)
  rw [e2, hq, inner_part L P p' q' _ _ hpart.1 hpart.2]
  unfold endF
  rw [if_neg (fun hh => ?_)]
  · rw [List.foldl_append]
  · obtain ⟨a1, a2⟩ := hh
    dsimp only at a1
    have := congrArg List.length e2
    rw [List.length_append, List.length_append] at this
    omega

theorem Fed.write {cap n : Nat} (hn : n ≤ cap) (h0 : 0 < cap) {ls : List (List UInt8)} (hls : ∀ l ∈ ls, LineN n l) {s : σ} : ∀ (k : Nat) (x : LB × σ) (l R : List UInt8), Fed L cap ls s x (l ++ R) → l.length ≤ k → Fed L cap ls s (writeF L P cap k x l) R
  | 0, x, l, R, h, hk => by
    have hl : l = [] := List.eq_nil_of_length_eq_zero (by omega)
    subst hl
    exact h
  | k + 1, x, l, R, h, hk => by
    by_cases hl : l = []
    · subst hl
      rw [writeF_nil]
      exact h
    · rw [writeF_step _ _ _ _ _ _ hl]
      have hpos : 0 < l.length := List.length_pos_iff.2 hl
      obtain ⟨m, hm⟩ : ∃ m, m = min (cap - x.1.bs.length) l.length := ⟨_, rfl⟩
      have hlt : x.1.bs.length < cap := by
        obtain ⟨_, _, p, _, rfl, _, _, hp⟩ := h
        exact hp
      rw [← hm]
      refine Fed.write hn h0 hls k _ (l.drop m) R ?_ (by rw [List.length_drop]; omega)
      refine Fed.round L P hn h0 hls ?_ (by rw [List.length_take]; omega)
      rw [← List.append_assoc, List.take_append_drop]
      exact h

theorem Fed.writes {cap n : Nat} (hn : n ≤ cap) (h0 : 0 < cap) {ls : List (List UInt8)} (hls : ∀ l ∈ ls, LineN n l) {s : σ} : ∀ (ps : List (List UInt8)) (x : LB × σ), Fed L cap ls s x ps.flatten → Fed L cap ls s (ps.foldl (fun x p => writeF L P cap p.length x p) x) []
  | [], _, h => h
  | p :: ps, x, h => Fed.writes hn h0 hls ps _ (Fed.write L P hn h0 hls p.length x p ps.flatten h (Nat.le_refl _))

/-- All lines, in any pieces. -/
theorem writes_lines {cap n : Nat} (hn : n ≤ cap) (h0 : 0 < cap) {ls : List (List UInt8)} (hls : ∀ l ∈ ls, LineN n l) (s : σ) (ps : List (List UInt8)) (hps : ps.flatten = ls.flatten) :
    ps.foldl (fun x p => writeF L P cap p.length x p) (⟨[], false, false⟩, s) = (⟨[], false, false⟩, ls.foldl L s) := by
  have h := Fed.writes L P hn h0 hls (s := s) ps (⟨[], false, false⟩, s) ⟨[], ls, [], rfl, rfl, by rw [List.nil_append, hps], .inl rfl, h0⟩
  obtain ⟨l1, l2, p, rfl, h2, h3, h4, h5⟩ := h
  rw [List.append_nil] at h3
  rw [h2]
  have hl2 : l2 = [] ∧ p = [] := by
    rcases h4 with rfl | ⟨l, r, y, rfl, hy, hl⟩
    · refine ⟨?_, rfl⟩
      cases l2 with
      | nil => rfl
      | cons l r =>
        exfalso
        obtain ⟨b, _, hb, _⟩ := hls l (by simp)
        rw [List.flatten_cons, hb] at h3
        simp at h3
    · exfalso
      rw [List.flatten_cons, hl, List.append_assoc] at h3
      have := congrArg List.length h3
      rw [List.length_append, List.length_append] at this
      have h1 : 0 < y.length := List.length_pos_iff.2 hy
      omega
  obtain ⟨rfl, rfl⟩ := hl2
  rw [List.append_nil]
end

end Go.Proofs.YtdljobmhnnegiaaDoor

/- The law of FnConcatenation, in plain Lean: the outputs of all events, one behind the other, are what was written. -/
namespace Go.Proofs.YtdljobmhnnegiaaDoor

def tOut : List UInt8 := [111, 117, 116, 112, 117, 116]
/-- The outputs of all events of output. -/
def outsL (es : List Ev) : List UInt8 := (es.map fun e => if e.action = tOut then e.output else []).flatten
theorem outsL_append (a b : List Ev) : outsL (a ++ b) = outsL a ++ outsL b := by unfold outsL; simp
theorem outsL_nil (es : List Ev) (h : ∀ e ∈ es, e.output = []) : outsL es = [] := by
  induction es with
  | nil => rfl
  | cons e es ih =>
    have h1 := h e (by simp)
    have h2 := ih (fun x hx => h x (by simp [hx]))
    unfold outsL at h2 ⊢
    rw [List.map_cons, List.flatten_cons, h2, h1]
    simp
theorem outs_emit (s : CS) (e : Ev) : outsL (emit s e).evs = outsL s.evs ++ (if e.action = tOut then e.output else []) := by
  unfold emit
  rw [outsL_append]
  congr 1
  unfold outsL
  by_cases h : e.test = []
  · rw [if_pos h]; simp
  · rw [if_neg h]; simp
theorem outs_emit_nil (s : CS) (e : Ev) (h : e.output = []) : outsL (emit s e).evs = outsL s.evs := by rw [outs_emit, h]; simp
theorem outs_out (s : CS) (o ty : List UInt8) : outsL (emit s (.out o ty)).evs = outsL s.evs ++ o := by
  rw [outs_emit]; rw [if_pos (show (Ev.out o ty).action = tOut from rfl)]; rfl
theorem outs_emitN (s : CS) (o ty : List UInt8) : outsL (emitN s o ty).evs = outsL s.evs ++ o := by
  unfold emitN
  split
  · rename_i h; rw [h, List.append_nil]
  · exact outs_out _ _ _
theorem outs_flushRep (s : CS) (d : Nat) : outsL (flushRep s d).evs = outsL s.evs := by
  unfold flushRep
  dsimp only
  have h := outsL_nil ((s.report.drop d).reverse.map fun p => Ev.of p.1 p.2) (fun e he => by obtain ⟨p, _, rfl⟩ := List.mem_map.1 he; rfl)
  rw [outsL_append, h, List.append_nil]

/-- A text without markers is handed on as it is. -/
theorem woL_plain : ∀ (l : List UInt8) (q : Nat) (s : CS) (ty acc : List UInt8), s.mEsc = false → (∀ c ∈ l, c ≠ 27 ∧ c ≠ 15 ∧ c ≠ 14) → l.length ≤ q → woL q s ty acc l = emitN s (acc ++ l) ty
  | [], q, s, ty, acc, _, _, _ => by rw [woL_nil, List.append_nil]
  | c :: r, q, s, ty, acc, h, hc, hq => by
    have h1 := hc c (by simp)
    rw [woL_else h h1.1 h1.2.1 h1.2.2 hq, woL_plain r (q - 1) s ty (acc ++ [c]) h (fun x hx => hc x (by simp [hx])) (by simp at hq; omega)]
    simp
theorem woF_plain (s : CS) (l : List UInt8) (h : s.mEsc = false) (hc : ∀ c ∈ l, c ≠ 27 ∧ c ≠ 15 ∧ c ≠ 14) : woF s l = emitN s l (woT s) := by
  unfold woF
  rw [woL_plain l l.length s _ [] h hc (Nat.le_refl _), List.nil_append]
theorem emitN_esc (s : CS) (o ty : List UInt8) : (emitN s o ty).mEsc = s.mEsc := by unfold emitN; split <;> rfl

/-- No markers. -/
def NoMark (T : List UInt8) : Prop := ∀ c ∈ T, c ≠ 22 ∧ c ≠ 15 ∧ c ≠ 14 ∧ c ≠ 27
theorem NoMark.part {T a l r : List UInt8} (h : NoMark T) (e : a ++ l ++ r = T) : ∀ c ∈ l, c ≠ 27 ∧ c ≠ 15 ∧ c ≠ 14 := fun c hc => by
  have := h c (by rw [← e]; simp [hc])
  exact ⟨this.2.2.2, this.2.1, this.2.2.1⟩

theorem wo_seq {T : List UInt8} (hM : NoMark T) : ∀ (a l r : List UInt8) (s : CS), (outsL s.evs = a ∧ s.mEsc = false) → l ≠ [] → a ++ l ++ r = T → (outsL (woF s l).evs = a ++ l ∧ (woF s l).mEsc = false) := by
  intro a l r s ⟨h1, h2⟩ _ he
  rw [woF_plain s l h2 (hM.part he)]
  exact ⟨by rw [outs_emitN, h1], by rw [emitN_esc, h2]⟩

/-- The outputs and what lies in the output's buffer are a. -/
structure CJ (a : List UInt8) (s : CS) : Prop where
  cat : outsL s.evs ++ s.out.bs = a
  esc : s.mEsc = false
  lt : s.out.bs.length < 1024
  mf : s.mFraming = false

theorem CJ.outW {T : List UInt8} (hM : NoMark T) {a l r : List UInt8} {s : CS} (h : CJ a s) (he : a ++ l ++ r = T) : CJ (a ++ l) (outW s l) := by
  obtain ⟨a', h1, h2, h3⟩ := seq_write (L := woF) (P := woF) (T := T) (J := fun a s => outsL s.evs = a ∧ s.mEsc = false) (wo_seq hM) (wo_seq hM) (cap := 1024) (by omega) l.length (outsL s.evs) l r (s.out, s) ⟨rfl, h.esc⟩ (by dsimp only; rw [h.cat]; exact he) h.lt (Nat.le_refl _)
  dsimp only at h2
  have hk := outW_kept s l
  refine ⟨?_, h1.2, h3, by rw [hk.mf]; exact h.mf⟩
  rw [h.cat] at h2
  rw [← h2, ← h1.1]
  rfl
theorem CJ.frame {T : List UInt8} (hM : NoMark T) {a l r : List UInt8} {s : CS} (h : CJ a s) (he : a ++ l ++ r = T) : CJ (a ++ l) (frameF s l) := by
  have h1 : CJ a { s with framing := true } := ⟨h.cat, h.esc, h.lt, h.mf⟩
  have h2 := h1.outW hM he
  exact ⟨h2.cat, h2.esc, h2.lt, h2.mf⟩
theorem CJ.flushRep {a : List UInt8} {s : CS} (h : CJ a s) (d : Nat) : CJ a { flushRep s d with mFraming := false } :=
  ⟨by show outsL (Go.Proofs.YtdljobmhnnegiaaDoor.flushRep s d).evs ++ s.out.bs = a; rw [outs_flushRep]; exact h.cat, h.esc, h.lt, rfl⟩
theorem CJ.flushRep' {a : List UInt8} {s : CS} (h : CJ a s) (d : Nat) : CJ a (Go.Proofs.YtdljobmhnnegiaaDoor.flushRep { s with mFraming := false } d) :=
  ⟨by show outsL (Go.Proofs.YtdljobmhnnegiaaDoor.flushRep { s with mFraming := false } d).evs ++ s.out.bs = a; rw [outs_flushRep]; exact h.cat, h.esc, h.lt, rfl⟩
theorem CJ.emit {a : List UInt8} {s : CS} (h : CJ a s) (e : Ev) (he : e.output = []) : CJ a (emit s e) :=
  ⟨by show outsL (Go.Proofs.YtdljobmhnnegiaaDoor.emit s e).evs ++ s.out.bs = a; rw [outs_emit_nil s e he]; exact h.cat, h.esc, h.lt, h.mf⟩

theorem updE_out (act nm : List UInt8) : (updE act nm).2.output = [] := by
  unfold updE
  split
  · rfl
  · split <;> rfl
theorem CJ.upd {T : List UInt8} (hM : NoMark T) {a l r : List UInt8} {s : CS} (h : CJ a s) (he : a ++ l ++ r = T) (act nm : List UInt8) (hn : act ≠ tname) : CJ (a ++ l) (updF s false l act nm) := by
  unfold updF updG
  rw [if_neg hn]
  have h1 := h.flushRep' 0
  have h2 : CJ a { Go.Proofs.YtdljobmhnnegiaaDoor.flushRep { s with mFraming := false } 0 with name := (updE act nm).1 } := ⟨h1.cat, h1.esc, h1.lt, h1.mf⟩
  split
  · exact (h2.frame hM he).emit _ (updE_out _ _)
  · exact (h2.emit _ (updE_out _ _)).frame hM he
theorem CJ.rep {T : List UInt8} (hM : NoMark T) {a l r : List UInt8} {s : CS} (h : CJ a s) (he : a ++ l ++ r = T) (act nm : List UInt8) (d : Nat) : CJ (a ++ l) (repF s false l act nm d) := by
  unfold repF
  split
  · exact h.outW hM he
  · have h1 := h.flushRep' d
    refine CJ.frame hM ?_ he
    exact ⟨h1.cat, h1.esc, h1.lt, h1.mf⟩
theorem CJ.name {a : List UInt8} {s : CS} (h : CJ a s) (d : Nat) : CJ a (nameAt s d) := by
  unfold nameAt
  split
  · exact h
  · split
    · exact ⟨h.cat, h.esc, h.lt, h.mf⟩
    · exact h

theorem upd_names : ∀ q ∈ updSplit, lowF (Lib.trimSuffix q.1 [58]) = tname → q.1 = [78, 65, 77, 69] := by decide
theorem upd_blanks : ∀ q ∈ updSplit, (32 : UInt8) ∉ q.1 := by decide
theorem CJ.lineH {T : List UInt8} (hM : NoMark T) (hN : ∀ u v, T ≠ u ++ tName ++ v) {a l r : List UInt8} {s : CS} (h : CJ a s) (he : a ++ l ++ r = T) : CJ (a ++ l) (lineHF s false l) := by
  unfold lineHF
  split
  · rename_i hp
    refine h.upd hM he _ _ fun ha => ?_
    obtain ⟨p, hp1, x, hx⟩ := upd_split hp
    have hc := cutF_one (c := 32) p.1 (p.2 ++ x) (upd_blanks p hp1)
    have h4 : l.drop 4 = p.1 ++ 32 :: (p.2 ++ x) := by rw [hx]; simp
    unfold actF at ha
    rw [h4, hc] at ha
    have hq := upd_names p hp1 ha
    refine hN a (32 :: (p.2 ++ x) ++ r) ?_
    rw [← he, hx, hq]
    unfold tName
    simp
  · split
    · exact h.rep hM he _ _ _
    · exact (h.name _).outW hM he

theorem trimF_pre (l : List UInt8) : ∃ x, l = trimF l ++ x := by
  unfold trimF
  have h1 : ∀ l : List UInt8, ∃ x, l = l.dropLast ++ x := fun l => by
    rw [List.dropLast_eq_take]; exact ⟨_, (List.take_append_drop _ _).symm⟩
  split
  · split
    · obtain ⟨x, hx⟩ := h1 l
      obtain ⟨y, hy⟩ := h1 l.dropLast
      exact ⟨y ++ x, by rw [← List.append_assoc, ← hy, ← hx]⟩
    · exact h1 l
  · exact ⟨[], by simp⟩

theorem CJ.marked {T : List UInt8} (hM : NoMark T) (hN : ∀ u v, T ≠ u ++ tName ++ v) {a l r : List UInt8} {s : CS} (h : CJ a s) (he : a ++ l ++ r = T) : CJ (a ++ l) (markedF s false l) := by
  have hnn : trimF l ≠ tName := fun hh => by
    obtain ⟨x, hx⟩ := trimF_pre l
    refine hN a (x ++ r) ?_
    rw [← he, ← hh]
    conv => lhs; rw [hx]
    simp
  rw [markedF_eq s false l l (trimF l) (if_neg hnn).symm (if_neg hnn).symm]
  split
  · unfold bigF
    have h1 := (h.flushRep 0).frame hM he
    exact ⟨h1.cat, h1.esc, h1.lt, h1.mf⟩
  · refine CJ.lineH hM hN ?_ he
    unfold skipF
    split
    · exact ⟨h.cat, h.esc, h.lt, h.mf⟩
    · exact h

theorem CJ.handle {T : List UInt8} (hM : NoMark T) (hN : ∀ u v, T ≠ u ++ tName ++ v) : ∀ (a l r : List UInt8) (s : CS), CJ a s → l ≠ [] → a ++ l ++ r = T → CJ (a ++ l) (handleF s l) := by
  intro a l r s h hl he
  cases l with
  | nil => exact absurd rfl hl
  | cons c t =>
    unfold handleF
    dsimp only
    rw [if_neg (fun hh => by rw [h.mf] at hh; cases hh.1), if_neg (fun hc => by
      exact (hM c (by rw [← he]; simp)).1 hc)]
    exact h.marked hM hN he

theorem CJ.inWs {T : List UInt8} (hM : NoMark T) (hN : ∀ u v, T ≠ u ++ tName ++ v) : ∀ (ps : List (List UInt8)) (a : List UInt8) (x : CI), CJ a x.2 → x.1.bs.length < 4096 → a ++ x.1.bs ++ ps.flatten = T →
    ∃ a', CJ a' (ps.foldl inW x).2 ∧ a' ++ (ps.foldl inW x).1.bs = T
  | [], a, x, h, _, he => ⟨a, h, by simpa using he⟩
  | p :: ps, a, x, h, hlt, he => by
    rw [List.flatten_cons, ← List.append_assoc] at he
    obtain ⟨a', h1, h2, h3⟩ := seq_write (L := handleF) (P := Go.Proofs.YtdljobmhnnegiaaDoor.outW) (T := T) (J := CJ) (CJ.handle hM hN) (fun a l r s hj _ hh => hj.outW hM hh) (cap := 4096) (by omega) p.length a p ps.flatten x h he hlt (Nat.le_refl _)
    exact CJ.inWs hM hN ps a' (inW x p) h1 h3 (by rw [← he, ← h2]; rfl)

/-- The law. -/
theorem cat_law (ps : List (List UInt8)) (exit : Int) (hM : NoMark ps.flatten) (hN : ∀ u v, ps.flatten ≠ u ++ tName ++ v) : outsL (convF ps exit [] true) = ps.flatten := by
  obtain ⟨T, hT⟩ : ∃ T, T = ps.flatten := ⟨_, rfl⟩
  rw [← hT] at hM hN ⊢
  obtain ⟨a, h1, h2⟩ := CJ.inWs hM hN ps [] startF ⟨rfl, rfl, by decide, rfl⟩ (by decide) (by rw [hT]; rfl)
  unfold convF
  dsimp only
  rw [if_pos rfl]
  obtain ⟨x, hx⟩ : ∃ x, x = failF (exitF (ps.foldl inW startF) exit) [] := ⟨_, rfl⟩
  have hx1 : x.1.bs = (ps.foldl inW startF).1.bs := by rw [hx]; rfl
  have hx2 : CJ a x.2 := by
    rw [hx]
    have hc : outsL (exitF (ps.foldl inW startF) exit).2.evs = outsL (ps.foldl inW startF).2.evs := by rw [exitF_evs]
    have hE : CJ a (exitF (ps.foldl inW startF) exit).2 := by
      unfold exitF
      dsimp only
      split
      · split
        · exact h1
        · exact ⟨h1.cat, h1.esc, h1.lt, h1.mf⟩
      · split
        · exact ⟨h1.cat, h1.esc, h1.lt, h1.mf⟩
        · exact h1
    unfold failF
    dsimp only
    rw [if_pos rfl]
    exact hE
  rw [← hx]
  rw [← hx1] at h2
  clear hx hx1 h1
  unfold closeF
  dsimp only
  obtain ⟨h3, _⟩ := seq_flush (P := outW) (T := T) (J := CJ) (fun a l r s hj _ hh => hj.outW hM hh) (R := []) (b := x.1) hx2 (by rw [h2, List.append_nil])
  obtain ⟨s, hs⟩ : ∃ s, s = (flushF outW x.1 x.2).2 := ⟨_, rfl⟩
  rw [← hs, h2] at h3
  rw [← hs]
  obtain ⟨h4, h5⟩ := seq_flush (P := woF) (T := T) (J := fun a s => outsL s.evs = a ∧ s.mEsc = false) (wo_seq hM) (R := []) (b := s.out) (s := s) ⟨rfl, h3.esc⟩ (by rw [h3.cat, List.append_nil])
  rw [h3.cat] at h4
  have h6 : outsL (outFl s).evs = T := h4.1
  split
  · exact h6
  · rw [outs_emit_nil _ _ rfl]
    exact h6

end Go.Proofs.YtdljobmhnnegiaaDoor

/- What the converter makes of one whole line: of output, of an update, of a report, of the end. -/
namespace Go.Proofs.YtdljobmhnnegiaaDoor

/-- Printable ASCII. -/
def Txt (b : List UInt8) : Prop := ∀ c ∈ b, 32 ≤ c.toNat ∧ c.toNat < 128
theorem Txt.app {a b : List UInt8} (h : Txt a) (h' : Txt b) : Txt (a ++ b) := fun c hc => (List.mem_append.1 hc).elim (h c) (h' c)
theorem Txt.no {b : List UInt8} (h : Txt b) (c : UInt8) (hc : c.toNat < 32) : c ∉ b := fun hh => by have := h c hh; omega
theorem Txt.plain {b : List UInt8} (h : Txt b) : PlainL b := ⟨h.no 10 (by decide), h.no 27 (by decide), fun hh => h.no 22 (by decide) (List.mem_of_mem_tail hh), h.no 9 (by decide)⟩
theorem Txt.plain22 {b : List UInt8} (h : Txt b) : PlainL (22 :: b) :=
  ⟨fun hh => by rcases List.mem_cons.1 hh with h1 | h1; exact absurd h1 (by decide); exact h.no 10 (by decide) h1, fun hh => by rcases List.mem_cons.1 hh with h1 | h1; exact absurd h1 (by decide); exact h.no 27 (by decide) h1, h.no 22 (by decide), fun hh => by rcases List.mem_cons.1 hh with h1 | h1; exact absurd h1 (by decide); exact h.no 9 (by decide) h1⟩
theorem Txt.out {b : List UInt8} (h : Txt b) : ∀ c ∈ b ++ [10], c ≠ 27 ∧ c ≠ 15 ∧ c ≠ 14 := fun c hc => by
  rcases List.mem_append.1 hc with h1 | h1
  · exact ⟨fun hh => h.no 27 (by decide) (hh ▸ h1), fun hh => h.no 15 (by decide) (hh ▸ h1), fun hh => h.no 14 (by decide) (hh ▸ h1)⟩
  · rw [List.mem_singleton] at h1; subst h1; decide

/-- A state with nothing held back. -/
def S0 (nm : List UInt8) (rep : List (List UInt8 × List UInt8)) (res : List UInt8) (mf : Bool) (fb : List UInt8) (evs : List Ev) : CS := ⟨nm, rep, res, ⟨[], false, false⟩, mf, false, false, false, fb, evs⟩
def repE (rep : List (List UInt8 × List UInt8)) : List Ev := rep.reverse.map fun p => Ev.of p.1 p.2
/-- An event of output of a test. -/
def Ev.outT (o ty nm : List UInt8) : Ev := ⟨tOut, nm, o, ty, [], [], [], []⟩
def tframe : List UInt8 := [102, 114, 97, 109, 101]

theorem outW_whole (s : CS) (l : List UInt8) (hl : EolOk l) (hn : l.length ≤ 1024) (ho : s.out = ⟨[], false, false⟩) : outW s l = { woF s l with out := ⟨[], false, false⟩ } := by
  have h := write_lines woF woF (cap := 1024) [l] s (fun x hx => by rw [List.mem_singleton] at hx; rw [hx]; exact hl) (by simpa using hn) l.length (by simp)
  simp only [List.flatten_cons, List.flatten_nil, List.append_nil, List.foldl_cons, List.foldl_nil] at h
  unfold outW
  rw [ho, h]

theorem emit_S0 (nm rep res mf fb evs) (e : Ev) (he : e.test = []) : emit (S0 nm rep res mf fb evs) e = S0 nm rep res mf fb (evs ++ [{ e with test := nm }]) := by
  unfold emit
  rw [if_pos he]
  rfl
theorem outW_S0 (nm rep res mf fb evs) (b : List UInt8) (h : Txt b) (hn : b.length < 1024) : outW (S0 nm rep res mf fb evs) (b ++ [10]) = S0 nm rep res mf fb (evs ++ [Ev.outT (b ++ [10]) [] nm]) := by
  rw [outW_whole _ _ h.plain.ok (by simp; omega) rfl, woF_plain _ _ rfl h.out]
  unfold emitN
  rw [if_neg (by simp), emit_S0 _ _ _ _ _ _ _ rfl]
  rfl
theorem frame_S0 (nm rep res mf fb evs) (b : List UInt8) (h : Txt b) (hn : b.length < 1024) : frameF (S0 nm rep res mf fb evs) (b ++ [10]) = S0 nm rep res mf fb (evs ++ [Ev.outT (b ++ [10]) tframe nm]) := by
  unfold frameF
  rw [outW_whole _ _ h.plain.ok (by simp; omega) rfl, woF_plain _ _ rfl h.out]
  unfold emitN
  rw [if_neg (by simp)]
  rfl
theorem flush_S0 (nm rep res mf fb evs) : flushRep (S0 nm rep res mf fb evs) 0 = S0 [] [] res mf fb (evs ++ repE rep) := rfl

theorem trimF_end (b : List UInt8) (h : Txt b) : trimF (b ++ [10]) = b := by
  unfold trimF
  rw [if_pos (by simp), List.dropLast_concat, if_neg (fun hh => h.no 13 (by decide) (List.mem_of_getLast? hh))]

/-- A line of framing that is none of the two last ones. -/
theorem marked_other (s : CS) (saw : Bool) (c : UInt8) (t : List UInt8) (h1 : c ≠ 80) (h2 : c ≠ 70) (h3 : c ≠ 63) (hn : ∀ x, c :: t ≠ tName ++ x) : markedF s saw (c :: t) = lineHF s saw (c :: t) := by
  obtain ⟨x, hx⟩ := trimF_pre (c :: t)
  have hnn : trimF (c :: t) ≠ tName := fun hh => hn x (by rw [← hh]; exact hx)
  rw [markedF_eq s saw (c :: t) (c :: t) (trimF (c :: t)) (if_neg hnn).symm (if_neg hnn).symm]
  rw [if_neg (fun hh => ?_)]
  · unfold skipF
    rw [if_neg (fun hh => ?_)]
    obtain ⟨r, hr⟩ := hasPre_split hh.1
    unfold tSkipPre at hr
    simp at hr
    exact h3 hr.1
  · rcases hh with hh | hh | hh
    · rw [hh] at hx; unfold tPASS at hx; simp at hx; exact h1 hx.1
    · rw [hh] at hx; unfold tFAIL at hx; simp at hx; exact h2 hx.1
    · obtain ⟨r, hr⟩ := hasPre_split hh
      rw [hr] at hx; unfold tFAILt at hx; simp at hx; exact h2 hx.1

theorem act_of (q a y : List UInt8) (hq : q.length = 4) (ha : (32 : UInt8) ∉ a) : actF (q ++ (a ++ 32 :: y)) = lowF (Lib.trimSuffix a [58]) ∧ nameF (q ++ (a ++ 32 :: y)) = Lib.trimSpaceD y := by
  unfold actF nameF
  rw [show (q ++ (a ++ 32 :: y)).drop 4 = a ++ 32 :: y by rw [← hq, List.drop_left], cutF_one a y ha]
  exact ⟨rfl, rfl⟩

/-- Blanks about a text. -/
theorem trim_left : ∀ (a : List UInt8) (x : UInt8) (t : List UInt8) (f : Nat), (∀ c ∈ a, Lib.isSp c = true) → Lib.isSp x = false → x.toNat < 128 → a.length < f → Lib.trimLeftD f (a ++ x :: t) = x :: t
  | [], x, t, f, _, h1, h2, hf => by
    obtain ⟨f', rfl⟩ : ∃ f', f = f' + 1 := ⟨f - 1, by simp at hf; omega⟩
    exact Lib.left_stop f' x t h1 h2
  | c :: a, x, t, f, ha, h1, h2, hf => by
    obtain ⟨f', rfl⟩ : ∃ f', f = f' + 1 := ⟨f - 1, by simp at hf; omega⟩
    show Lib.trimLeftD (f' + 1) (c :: (a ++ x :: t)) = _
    rw [Lib.left_step f' c _ (ha c (by simp))]
    exact trim_left a x t f' (fun d hd => ha d (by simp [hd])) h1 h2 (by simp at hf; omega)
theorem trim_mid (a m : List UInt8) (ha : ∀ c ∈ a, Lib.isSp c = true) (hm : Txt m) (x y : UInt8) (t u : List UInt8) (hx : m = x :: t) (hy : m = u ++ [y]) (hx2 : Lib.isSp x = false) (hy2 : Lib.isSp y = false) : Lib.trimSpaceD (a ++ (m ++ [10])) = m := by
  unfold Lib.trimSpaceD
  have hxa : x.toNat < 128 := (hm x (by rw [hx]; simp)).2
  have hya : y.toNat < 128 := (hm y (by rw [hy]; simp)).2
  have e1 : Lib.trimLeftD (a ++ (m ++ [10])).length (a ++ (m ++ [10])) = m ++ [10] := by
    rw [hx]
    refine trim_left a x (t ++ [10]) (a ++ (x :: t ++ [10])).length ha hx2 hxa ?_
    rw [List.length_append, List.length_append, List.length_cons]; omega
  rw [e1]
  have hlm : 0 < m.length := by rw [hx]; simp
  obtain ⟨f, hf⟩ : ∃ f, (a ++ (m ++ [10])).length = f + 2 := ⟨a.length + m.length - 1, by simp; omega⟩
  rw [hf, Lib.right_step (f + 1) m 10 (by decide), hy, Lib.right_stop f u y hy2 hya]

/-- Letters and digits. -/
def Alnum (b : List UInt8) : Prop := ∀ c ∈ b, (97 ≤ c.toNat ∧ c.toNat ≤ 122) ∨ (65 ≤ c.toNat ∧ c.toNat ≤ 90) ∨ (48 ≤ c.toNat ∧ c.toNat ≤ 57)
/-- .. and blanks. -/
def AlnumB (b : List UInt8) : Prop := ∀ c ∈ b, (97 ≤ c.toNat ∧ c.toNat ≤ 122) ∨ (65 ≤ c.toNat ∧ c.toNat ≤ 90) ∨ (48 ≤ c.toNat ∧ c.toNat ≤ 57) ∨ c.toNat = 32
theorem Alnum.txt {b : List UInt8} (h : Alnum b) : Txt b := fun c hc => by have := h c hc; omega
theorem AlnumB.txt {b : List UInt8} (h : AlnumB b) : Txt b := fun c hc => by have := h c hc; omega
theorem Alnum.noBlank {b : List UInt8} (h : Alnum b) : (32 : UInt8) ∉ b := fun hh => by have := h 32 hh; revert this; decide
set_option maxRecDepth 100000 in
theorem isSp_no (c : UInt8) (h : 32 < c.toNat ∧ c.toNat < 128) : Lib.isSp c = false := by
  have : ∀ n : Fin 256, 32 < n.val ∧ n.val < 128 → Lib.isSp (UInt8.ofNat n.val) = false := by decide
  have := this ⟨c.toNat, c.toNat_lt⟩ h
  simpa using this

/-- The update of a test: the first byte of the word tells that it is no name line. -/
theorem handle_upd (nm rep res mf fb evs) (p : List UInt8 × List UInt8) (hp : p ∈ updSplit) (y b : List UInt8) (hb : b ++ [10] = [61, 61, 61, 32] ++ (p.1 ++ 32 :: (p.2 ++ y))) (hT : Txt b) (hn : b.length < 1000)
    (h7 : p.1 ≠ [78, 65, 77, 69]) (h8 : p.1 ≠ [80, 65, 85, 83, 69]) (x : List UInt8) (hx : Lib.trimSpaceD (p.2 ++ y) = x) (e : Ev) (t : List UInt8) (he : updE (lowF (Lib.trimSuffix p.1 [58])) x = (t, e)) (het : e.test = []) :
    handleF (S0 nm rep res mf fb evs) (22 :: (b ++ [10])) = S0 t [] res true fb (evs ++ repE rep ++ [{ e with test := t }] ++ [Ev.outT (b ++ [10]) tframe t]) := by
  obtain ⟨c1, c2, c3⟩ := (show ∀ q ∈ updSplit, q.1 ≠ [78, 65, 77, 69] → q.1 ≠ [80, 65, 85, 83, 69] → (∀ x, [61, 61, 61, 32] ++ (q.1 ++ 32 :: x) ≠ tName ++ [] ∨ True) ∧ lowF (Lib.trimSuffix q.1 [58]) ≠ tname ∧ lowF (Lib.trimSuffix q.1 [58]) ≠ tpause from by
    intro q hq h1 h2
    refine ⟨fun _ => .inr trivial, ?_⟩
    revert q; decide) p hp h7 h8
  have h0 : b ++ [10] = 61 :: ([61, 61, 32] ++ (p.1 ++ 32 :: (p.2 ++ y))) := hb
  unfold handleF
  dsimp only
  rw [if_neg (fun hh => hh.2 rfl), if_pos rfl]
  have ho : outFl (S0 nm rep res mf fb evs) = S0 nm rep res mf fb evs := rfl
  rw [ho]
  have hA := act_of [61, 61, 61, 32] p.1 (p.2 ++ y) rfl (upd_blanks p hp)
  rw [← hb, hx] at hA
  have hpre : anyPre (b ++ [10]) tUpd = true := by
    unfold anyPre
    refine List.any_eq_true.2 ⟨[61, 61, 61, 32] ++ (p.1 ++ 32 :: p.2), ?_, ?_⟩
    · rw [tUpd_eq]; exact List.mem_map.2 ⟨p, hp, rfl⟩
    · rw [hb, show ([61, 61, 61, 32] : List UInt8) ++ (p.1 ++ 32 :: (p.2 ++ y)) = ([61, 61, 61, 32] ++ (p.1 ++ 32 :: p.2)) ++ y by simp]
      exact hasPre_app _ _
  have hm : markedF (S0 nm rep res mf fb evs) true (b ++ [10]) = lineHF (S0 nm rep res mf fb evs) true (b ++ [10]) := by
    rw [h0]
    refine marked_other _ _ _ _ (by decide) (by decide) (by decide) fun z hz => ?_
    have hz2 := congrArg (List.drop 4) hz
    have e4 : List.drop 4 (61 :: ([61, 61, 32] ++ (p.1 ++ 32 :: (p.2 ++ y)))) = p.1 ++ 32 :: (p.2 ++ y) := by simp
    have e5 : List.drop 4 (tName ++ z) = [78, 65, 77, 69] ++ z := by unfold tName; simp
    rw [e4, e5] at hz2
    have hd := (show ∀ q ∈ updSplit, q.1 ≠ [78, 65, 77, 69] → q.1.head? ≠ some 78 ∧ q.1 ≠ [] from by decide) p hp h7
    cases hq : p.1 with
    | nil => exact hd.2 hq
    | cons c r =>
      rw [hq] at hz2 hd
      simp at hz2
      exact hd.1 (by simp [hz2.1])
  rw [hm]
  unfold lineHF
  rw [if_pos hpre, hA.1, hA.2]
  unfold updF updG
  rw [he, if_neg c2, if_neg c3]
  dsimp only
  have hf : flushRep { S0 nm rep res mf fb evs with mFraming := true } 0 = S0 [] [] res true fb (evs ++ repE rep) := rfl
  rw [hf]
  have hf2 : ({ S0 [] [] res true fb (evs ++ repE rep) with name := t } : CS) = S0 t [] res true fb (evs ++ repE rep) := rfl
  rw [hf2, emit_S0 _ _ _ _ _ _ _ het, frame_S0 _ _ _ _ _ _ _ hT (by omega)]

/-- A line of output. -/
theorem handle_out (nm rep res fb evs) (b : List UInt8) (h : Txt b) (hn : b.length < 1024) : handleF (S0 nm rep res true fb evs) (b ++ [10]) = S0 nm rep res true fb (evs ++ [Ev.outT (b ++ [10]) [] nm]) := by
  have hc : ∃ c r, b ++ [10] = c :: r ∧ c ≠ 22 := by
    cases b with
    | nil => exact ⟨10, [], rfl, by decide⟩
    | cons c r => exact ⟨c, r ++ [10], rfl, fun hh => h.no 22 (by decide) (by rw [hh]; simp)⟩
  obtain ⟨c, r, e, hc⟩ := hc
  rw [← outW_S0 nm rep res true fb evs b h hn, e]
  unfold handleF
  dsimp only
  rw [if_pos ⟨rfl, hc⟩]

theorem trun_pre : tUpd = [[61, 61, 61, 32, 82, 85, 78, 32, 32, 32], [61, 61, 61, 32, 80, 65, 85, 83, 69, 32], [61, 61, 61, 32, 67, 79, 78, 84, 32, 32], [61, 61, 61, 32, 78, 65, 77, 69, 32, 32], [61, 61, 61, 32, 80, 65, 83, 83, 32, 32], [61, 61, 61, 32, 70, 65, 73, 76, 32, 32], [61, 61, 61, 32, 83, 75, 73, 80, 32, 32], [61, 61, 61, 32, 65, 84, 84, 82, 32, 32], [61, 61, 61, 32, 65, 82, 84, 73, 70, 65, 67, 84, 83, 32]] := rfl
def tRun : List UInt8 := [61, 61, 61, 32, 82, 85, 78, 32, 32, 32]
def trun : List UInt8 := [114, 117, 110]
theorem Alnum.ends {b : List UInt8} (h : Alnum b) (hne : b ≠ []) : ∃ x t y u, b = x :: t ∧ b = u ++ [y] ∧ Lib.isSp x = false ∧ Lib.isSp y = false := by
  obtain ⟨x, t, hx⟩ : ∃ x t, b = x :: t := by cases b with | nil => exact absurd rfl hne | cons x t => exact ⟨x, t, rfl⟩
  refine ⟨x, t, b.getLast hne, b.dropLast, hx, (List.dropLast_concat_getLast hne).symm, isSp_no _ ?_, isSp_no _ ?_⟩
  · have := h x (by rw [hx]; simp); omega
  · have := h _ (List.getLast_mem hne); omega

/-- "=== RUN   name" -/
theorem handle_run (nm rep res mf fb evs) (name : List UInt8) (h : Alnum name) (hne : name ≠ []) (hn : name.length ≤ 50) :
    handleF (S0 nm rep res mf fb evs) (22 :: (tRun ++ name ++ [10])) = S0 name [] res true fb (evs ++ repE rep ++ [Ev.of trun name] ++ [Ev.outT (tRun ++ name ++ [10]) tframe name]) := by
  obtain ⟨x, t, y, u, h1, h2, h3, h4⟩ := h.ends hne
  exact handle_upd nm rep res mf fb evs ([82, 85, 78], [32, 32]) (by decide) (name ++ [10]) (tRun ++ name) (by unfold tRun; simp) (Txt.app (by unfold Txt; decide) h.txt) (by simp [tRun]; omega) (by decide) (by decide) name
    (trim_mid [32, 32] name (by decide) h.txt x y t u h1 h2 h3 h4) (Ev.of trun []) name (by unfold updE; rw [if_neg (by decide), if_neg (by decide)]; rfl) rfl

end Go.Proofs.YtdljobmhnnegiaaDoor

/- The law of FnStory, in plain Lean: tests that run one after the other, with markers, make the events that the story tells. -/
namespace Go.Proofs.YtdljobmhnnegiaaDoor

/-- A test of the reference. -/
structure TT where
  name : List UInt8
  kind : Nat
  lines : List (List UInt8)

def endedL (k : Nat) : List UInt8 := if k = 0 then tPASS else if k = 1 then tFAIL else [83, 75, 73, 80]
def toldL (k : Nat) : List UInt8 := if k = 0 then tpass else if k = 1 then tfail else tskip
def beginL (t : TT) : List UInt8 := tRun ++ t.name
def tTime : List UInt8 := [32, 40, 48, 46, 48, 48, 115, 41]
def endL (t : TT) : List UInt8 := [45, 45, 45, 32] ++ endedL t.kind ++ [58, 32] ++ t.name ++ tTime
/-- A test whose name has letters and digits alone, and plain lines. -/
structure ProperT (t : TT) : Prop where
  kind : t.kind ≤ 2
  name : Alnum t.name
  ne : t.name ≠ []
  len : t.name.length ≤ 50
  lines : ∀ l ∈ t.lines, AlnumB l ∧ l ≠ [] ∧ l.length ≤ 100
  few : t.lines.length ≤ 20

def linesT (t : TT) : List (List UInt8) := [22 :: (beginL t ++ [10])] ++ t.lines.map (· ++ [10]) ++ [22 :: (endL t ++ [10])]
def evT (t : TT) : List Ev := [Ev.of trun t.name, Ev.outT (beginL t ++ [10]) tframe t.name] ++ t.lines.map (fun l => Ev.outT (l ++ [10]) [] t.name) ++ [Ev.outT (endL t ++ [10]) tframe t.name]
def toldE (t : TT) : Ev := Ev.of (toldL t.kind) t.name

theorem idxF_two (A B : List UInt8) (i : Nat) (h : (32 : UInt8) ∉ A) : idxF [32, 40] (A ++ 32 :: 40 :: B) i = some (i + A.length) := by
  induction A generalizing i with
  | nil =>
    show idxF [32, 40] (32 :: 40 :: B) i = _
    unfold idxF
    rw [if_pos (by rw [show (32 : UInt8) :: 40 :: B = [32, 40] ++ B by simp]; exact hasPre_app _ _)]; simp
  | cons a A ih =>
    have ha : a ≠ 32 := fun e => h (by rw [e]; exact List.mem_cons_self ..)
    show idxF [32, 40] (a :: (A ++ 32 :: 40 :: B)) i = _
    unfold idxF
    rw [if_neg (fun hh => by
      obtain ⟨r, hr⟩ := hasPre_split hh
      simp at hr
      exact ha hr.1)]
    rw [ih (i + 1) (fun hm => h (List.mem_cons_of_mem _ hm))]
    simp; omega

theorem ended_txt : ∀ k : Nat, k ≤ 2 → Txt (endedL k) := by
  intro k hk
  rcases (show k = 0 ∨ k = 1 ∨ k = 2 by omega) with rfl | rfl | rfl <;> (unfold Txt; decide)
theorem ended_short : ∀ k : Nat, (endedL k).length = 4 := by
  intro k
  unfold endedL
  split
  · rfl
  · split <;> rfl

/-- "--- PASS: name (0.00s)" -/
theorem handle_end (nm res fb evs) (t : TT) (h : ProperT t) : handleF (S0 nm [] res true fb evs) (22 :: (endL t ++ [10])) = S0 t.name [(toldL t.kind, t.name)] res true fb (evs ++ [Ev.outT (endL t ++ [10]) tframe t.name]) := by
  obtain ⟨x, r, y, u, h1, h2, h3, h4⟩ := h.name.ends h.ne
  have hlen := h.len
  have hT : Txt (endL t) := by
    unfold endL
    exact ((((show Txt [45, 45, 45, 32] by unfold Txt; decide).app (ended_txt _ h.kind)).app (by unfold Txt; decide)).app h.name.txt).app (by unfold Txt; decide)
  have hel := ended_short t.kind
  have hk : ∃ a, a = endedL t.kind ++ [58] ∧ ([45, 45, 45, 32] ++ (a ++ [32])) ∈ tRep ∧ (32 : UInt8) ∉ a ∧ lowF (Lib.trimSuffix a [58]) = toldL t.kind := by
    have := h.kind
    rcases (show t.kind = 0 ∨ t.kind = 1 ∨ t.kind = 2 by omega) with e | e | e <;> (rw [e]; exact ⟨_, rfl, by decide⟩)
  obtain ⟨a, ha, hrep, ha32, hact⟩ := hk
  have hsp : endL t ++ [10] = [45, 45, 45, 32] ++ (a ++ 32 :: (t.name ++ tTime ++ [10])) := by rw [ha]; unfold endL; simp
  have hA := act_of [45, 45, 45, 32] a (t.name ++ tTime ++ [10]) rfl ha32
  rw [← hsp] at hA
  have hnm : Lib.trimSpaceD (t.name ++ tTime ++ [10]) = t.name ++ tTime := by
    have := trim_mid [] (t.name ++ tTime) (by simp) (h.name.txt.app (by unfold Txt; decide)) x 41 (r ++ tTime) (t.name ++ [32, 40, 48, 46, 48, 48, 115]) (by rw [h1]; rfl) (by unfold tTime; simp) h3 (by decide)
    simpa using this
  have hrn : repN (t.name ++ tTime) = t.name := by
    unfold repN
    have e : t.name ++ tTime = t.name ++ 32 :: 40 :: [48, 46, 48, 48, 115, 41] := rfl
    rw [e, idxF_two _ _ 0 h.name.noBlank]
    simp
  unfold handleF
  dsimp only
  rw [if_neg (fun hh => hh.2 rfl), if_pos rfl]
  have ho : outFl (S0 nm [] res true fb evs) = S0 nm [] res true fb evs := rfl
  rw [ho]
  have h0 : endL t ++ [10] = 45 :: ([45, 45, 32] ++ (a ++ 32 :: (t.name ++ tTime ++ [10]))) := hsp
  have hm : markedF (S0 nm [] res true fb evs) true (endL t ++ [10]) = lineHF (S0 nm [] res true fb evs) true (endL t ++ [10]) := by
    rw [h0]
    exact marked_other _ _ _ _ (by decide) (by decide) (by decide) (fun z hz => by unfold tName at hz; simp at hz)
  rw [hm]
  have hu : ¬ anyPre (endL t ++ [10]) tUpd = true := fun hh => by
    obtain ⟨p, _, z, hz⟩ := upd_split hh
    rw [h0] at hz
    simp at hz
  have hd : dedent (endL t ++ [10]).length (endL t ++ [10]) 0 = (endL t ++ [10], 0) := by
    obtain ⟨q, hq⟩ : ∃ q, (endL t ++ [10]).length = q + 1 := ⟨(endL t).length, by simp⟩
    rw [hq]
    unfold dedent
    rw [if_neg (fun hh => by
      obtain ⟨z, hz⟩ := hasPre_split hh
      rw [h0] at hz
      unfold t4 at hz
      simp at hz)]
  have hr : anyPre (endL t ++ [10]) tRep = true := by
    unfold anyPre
    refine List.any_eq_true.2 ⟨_, hrep, ?_⟩
    rw [hsp, show ([45, 45, 45, 32] : List UInt8) ++ (a ++ 32 :: (t.name ++ tTime ++ [10])) = ([45, 45, 45, 32] ++ (a ++ [32])) ++ (t.name ++ tTime ++ [10]) by simp]
    exact hasPre_app _ _
  unfold lineHF
  rw [if_neg hu, hd]
  dsimp only
  rw [if_pos hr, hA.1, hA.2, hnm, hact]
  unfold repF
  rw [hrn, if_neg (by omega)]
  have hf : flushRep { S0 nm [] res true fb evs with mFraming := true } 0 = S0 [] [] res true fb (evs ++ repE []) := rfl
  rw [hf]
  have hf2 : ({ S0 [] [] res true fb (evs ++ repE []) with name := t.name, report := (S0 [] [] res true fb (evs ++ repE [])).report ++ [(toldL t.kind, t.name)] } : CS) = S0 t.name [(toldL t.kind, t.name)] res true fb (evs ++ repE []) := rfl
  rw [hf2, frame_S0 _ _ _ _ _ _ _ hT (by unfold endL tTime; simp [hel]; omega)]
  rw [show evs ++ repE [] = evs by unfold repE; simp]

/-- "PASS" -/
theorem handle_fin (nm rep res mf fb evs) (k : Nat) (hk : k ≤ 1) : handleF (S0 nm rep res mf fb evs) (22 :: (endedL k ++ [10])) = S0 [] [] (toldL k) true fb (evs ++ repE rep ++ [Ev.outT (endedL k ++ [10]) tframe []]) := by
  unfold handleF
  dsimp only
  rw [if_neg (fun hh => hh.2 rfl), if_pos rfl]
  have ho : outFl (S0 nm rep res mf fb evs) = S0 nm rep res mf fb evs := rfl
  rw [ho]
  have ht : trimF (endedL k ++ [10]) = endedL k := trimF_end _ (ended_txt k (by omega))
  have hnn : endedL k ≠ tName := fun hh => by have := congrArg List.length hh; rw [ended_short] at this; revert this; decide
  rw [markedF_eq _ true _ (endedL k ++ [10]) (endedL k) (by rw [ht, if_neg hnn]) (by rw [ht, if_neg hnn])]
  have hc : endedL k = tPASS ∨ endedL k = tFAIL ∨ hasPre (endedL k) tFAILt = true := by
    rcases (show k = 0 ∨ k = 1 by omega) with rfl | rfl
    · exact .inl rfl
    · exact .inr (.inl rfl)
  rw [if_pos hc]
  unfold bigF
  have hf : ({ flushRep (S0 nm rep res mf fb evs) 0 with mFraming := true } : CS) = S0 [] [] res true fb (evs ++ repE rep) := rfl
  rw [hf, frame_S0 _ _ _ _ _ _ _ (ended_txt k (by omega)) (by rw [ended_short]; omega)]
  rcases (show k = 0 ∨ k = 1 by omega) with rfl | rfl
  · rw [if_pos (show endedL 0 = tPASS from rfl)]; rfl
  · rw [if_neg (show ¬ endedL 1 = tPASS by decide)]; rfl

theorem handle_outs (nm rep res fb) : ∀ (ls : List (List UInt8)) (evs), (∀ l ∈ ls, AlnumB l ∧ l ≠ [] ∧ l.length ≤ 100) → (ls.map (· ++ [10])).foldl handleF (S0 nm rep res true fb evs) = S0 nm rep res true fb (evs ++ ls.map fun l => Ev.outT (l ++ [10]) [] nm)
  | [], evs, _ => by simp
  | l :: ls, evs, h => by
    have h1 := h l (by simp)
    rw [List.map_cons, List.foldl_cons, handle_out _ _ _ _ _ l h1.1.txt (by omega), handle_outs nm rep res fb ls _ (fun x hx => h x (by simp [hx]))]
    simp

theorem handle_test (nm rep res mf fb evs) (t : TT) (h : ProperT t) : (linesT t).foldl handleF (S0 nm rep res mf fb evs) = S0 t.name [(toldL t.kind, t.name)] res true fb (evs ++ repE rep ++ evT t) := by
  unfold linesT
  rw [List.foldl_append, List.foldl_append, List.foldl_cons, List.foldl_nil, List.foldl_cons, List.foldl_nil]
  unfold beginL
  rw [handle_run _ _ _ _ _ _ _ h.name h.ne h.len, handle_outs _ _ _ _ _ _ h.lines, handle_end _ _ _ _ _ h]
  unfold evT beginL
  simp

theorem handle_tests (res fb) : ∀ (ts : List TT) (nm rep mf evs), (∀ t ∈ ts, ProperT t) →
    ∃ nm' rep' mf' evs', (ts.flatMap linesT).foldl handleF (S0 nm rep res mf fb evs) = S0 nm' rep' res mf' fb evs' ∧ evs' ++ repE rep' = evs ++ repE rep ++ ts.flatMap fun t => evT t ++ [toldE t]
  | [], nm, rep, mf, evs, _ => ⟨nm, rep, mf, evs, rfl, by simp⟩
  | t :: ts, nm, rep, mf, evs, h => by
    rw [List.flatMap_cons, List.foldl_append, handle_test _ _ _ _ _ _ _ (h t (by simp))]
    obtain ⟨nm', rep', mf', evs', h1, h2⟩ := handle_tests res fb ts t.name [(toldL t.kind, t.name)] true (evs ++ repE rep ++ evT t) (fun x hx => h x (by simp [hx]))
    refine ⟨nm', rep', mf', evs', h1, ?_⟩
    rw [h2, List.flatMap_cons]
    simp [repE, toldE]

/-- Whether a test failed. -/
def lastK (ts : List TT) : Nat := if ts.any (fun t => t.kind == 1) then 1 else 0
def storyL (ts : List TT) : List (List UInt8) := ts.flatMap linesT ++ [22 :: (endedL (lastK ts) ++ [10])]
def storyE (ts : List TT) : List Ev := [Ev.of tstart []] ++ (ts.flatMap fun t => evT t ++ [toldE t]) ++ [Ev.outT (endedL (lastK ts) ++ [10]) tframe [], Ev.of (toldL (lastK ts)) []]

theorem lastK_le (ts : List TT) : lastK ts ≤ 1 := by unfold lastK; split <;> omega
theorem lineN_of {b : List UInt8} {n : Nat} (h : PlainL b) (hn : b.length < n) : LineN n (b ++ [10]) := ⟨b, h, rfl, by simp; omega⟩
theorem story_lines (ts : List TT) (h : ∀ t ∈ ts, ProperT t) : ∀ l ∈ storyL ts, LineN 4096 l := by
  intro l hl
  unfold storyL at hl
  rcases List.mem_append.1 hl with hl | hl
  · obtain ⟨t, ht, hl⟩ := List.mem_flatMap.1 hl
    have hp := h t ht
    have hlen := hp.len
    have hel := ended_short t.kind
    unfold linesT at hl
    rcases List.mem_append.1 hl with hl | hl
    · rcases List.mem_append.1 hl with hl | hl
      · rw [List.mem_singleton] at hl
        subst hl
        exact lineN_of (b := 22 :: beginL t) (Txt.plain22 ((show Txt tRun by unfold Txt; decide).app hp.name.txt)) (by unfold beginL tRun; simp; omega)
      · obtain ⟨x, hx, rfl⟩ := List.mem_map.1 hl
        have := hp.lines x hx
        exact lineN_of this.1.txt.plain (by omega)
    · rw [List.mem_singleton] at hl
      subst hl
      refine lineN_of (b := 22 :: endL t) (Txt.plain22 ?_) (by unfold endL tTime; simp [hel]; omega)
      unfold endL
      exact ((((show Txt [45, 45, 45, 32] by unfold Txt; decide).app (ended_txt _ hp.kind)).app (by unfold Txt; decide)).app hp.name.txt).app (by unfold Txt; decide)
  · rw [List.mem_singleton] at hl
    subst hl
    exact lineN_of (b := 22 :: endedL (lastK ts)) (Txt.plain22 (ended_txt _ (by have := lastK_le ts; omega))) (by simp [ended_short])

/-- The law. -/
theorem story_law (ts : List TT) (h : ∀ t ∈ ts, ProperT t) (ps : List (List UInt8)) (hps : ps.flatten = (storyL ts).flatten) (exit : Int) (he : exit = if lastK ts = 1 then 2 else 1) : convF ps exit [] true = storyE ts := by
  have h1 : ps.foldl inW startF = (⟨[], false, false⟩, (storyL ts).foldl handleF startF.2) := writes_lines handleF outW (cap := 4096) (Nat.le_refl _) (by omega) (story_lines ts h) startF.2 ps hps
  unfold convF
  dsimp only
  rw [if_pos rfl, h1]
  have h2 : startF.2 = S0 [] [] [] false [] [Ev.of tstart []] := rfl
  rw [h2]
  obtain ⟨nm', rep', mf', evs', h3, h4⟩ := handle_tests [] [] ts [] [] false [Ev.of tstart []] h
  unfold storyL
  rw [List.foldl_append, h3, List.foldl_cons, List.foldl_nil, handle_fin _ _ _ _ _ _ _ (lastK_le ts), h4]
  have hx : failF (exitF ((⟨[], false, false⟩ : LB), S0 [] [] (toldL (lastK ts)) true [] ([Ev.of tstart []] ++ repE [] ++ (ts.flatMap fun t => evT t ++ [toldE t]) ++ [Ev.outT (endedL (lastK ts) ++ [10]) tframe []])) exit) [] = ((⟨[], false, false⟩ : LB), S0 [] [] (toldL (lastK ts)) true [] ([Ev.of tstart []] ++ repE [] ++ (ts.flatMap fun t => evT t ++ [toldE t]) ++ [Ev.outT (endedL (lastK ts) ++ [10]) tframe []])) := by
    have := lastK_le ts
    unfold failF exitF
    dsimp only
    rw [if_pos rfl, he]
    rcases (show lastK ts = 0 ∨ lastK ts = 1 by omega) with e | e
    · rw [e]; rfl
    · rw [e]; rfl
  rw [hx]
  have := lastK_le ts
  unfold storyE
  rcases (show lastK ts = 0 ∨ lastK ts = 1 by omega) with e | e <;> (rw [e]; unfold closeF flushF outFl flushF S0 emit; simp [toldL, tpass, tfail, Ev.of, repE])

end Go.Proofs.YtdljobmhnnegiaaDoor

/- The laws of FnAttribute, FnArtifacts, FnEscaped, FnResult, in plain Lean: a test, and one line more. -/
namespace Go.Proofs.YtdljobmhnnegiaaDoor

/-- Closing where nothing is held back. -/
theorem close_S0 (b : LB) (nm rep res mf fb evs) (hb : b.bs = []) : (closeF (b, S0 nm rep res mf fb evs)).2.evs = evs ++ (if res = [] then [] else [{ Ev.of res nm with fb := if res = tfail then fb else [] }]) := by
  unfold closeF flushF
  rw [if_pos hb]
  dsimp only
  have ho : outFl (S0 nm rep res mf fb evs) = S0 nm rep res mf fb evs := rfl
  rw [ho]
  have hr : (S0 nm rep res mf fb evs).result = res := rfl
  rw [hr]
  split
  · simp [S0]
  · rfl

/-- Two lines in one piece. -/
theorem conv_two (l1 l2 : List UInt8) (h1 : EolOk l1) (h2 : EolOk l2) (hn : l1.length + l2.length ≤ 4096) (nm rep mf evs) (hh : handleF (handleF startF.2 l1) l2 = S0 nm rep [] mf [] evs) :
    convF [l1 ++ l2] 1 [] true = evs ++ [Ev.of tpass nm] := by
  have h := write_lines handleF outW (cap := 4096) [l1, l2] startF.2 (fun x hx => by
    rcases List.mem_cons.1 hx with rfl | hx
    · exact h1
    · rw [List.mem_singleton] at hx; rw [hx]; exact h2) (by simpa using hn) (l1 ++ l2).length (by simp)
  simp only [List.flatten_cons, List.flatten_nil, List.append_nil, List.foldl_cons, List.foldl_nil] at h
  have hi : inW startF (l1 ++ l2) = (⟨[], false, false⟩, S0 nm rep [] mf [] evs) := by rw [← hh]; exact h
  unfold convF
  dsimp only
  rw [if_pos rfl, List.foldl_cons, List.foldl_nil, hi]
  have hx : failF (exitF ((⟨[], false, false⟩ : LB), S0 nm rep [] mf [] evs) 1) [] = ((⟨[], false, false⟩ : LB), S0 nm rep tpass mf [] evs) := by
    unfold failF exitF
    dsimp only
    rw [if_pos rfl, if_pos rfl, if_neg (by show ([] : List UInt8) ≠ tskip; decide)]
    rfl
  rw [hx, close_S0 _ _ _ _ _ _ _ rfl, if_neg (by decide), if_neg (by decide)]
  rfl

def lineRun (name : List UInt8) : List UInt8 := 22 :: (tRun ++ name ++ [10])
theorem start_run (name : List UInt8) (h : Alnum name) (hne : name ≠ []) (hn : name.length ≤ 50) : handleF startF.2 (lineRun name) = S0 name [] [] true [] [Ev.of tstart [], Ev.of trun name, Ev.outT (tRun ++ name ++ [10]) tframe name] := by
  have h2 : startF.2 = S0 [] [] [] false [] [Ev.of tstart []] := rfl
  rw [h2]
  unfold lineRun
  rw [handle_run _ _ _ _ _ _ name h hne hn]
  simp [repE]
theorem lineRun_ok (name : List UInt8) (h : Alnum name) : EolOk (lineRun name) := by
  have := (Txt.plain22 ((show Txt tRun by unfold Txt; decide).app h.txt)).ok
  unfold lineRun
  exact this
theorem lineRun_len (name : List UInt8) : (lineRun name).length = name.length + 12 := by unfold lineRun tRun; simp

/-- A text whose last byte is no blank. -/
theorem AlnumB.last {b : List UInt8} (h : AlnumB b) (hne : b ≠ []) (hl : b.getLast? ≠ some 32) : ∃ y u, b = u ++ [y] ∧ Lib.isSp y = false := by
  refine ⟨b.getLast hne, b.dropLast, (List.dropLast_concat_getLast hne).symm, isSp_no _ ?_⟩
  have h1 := h _ (List.getLast_mem hne)
  have h2 : (b.getLast hne).toNat ≠ 32 := fun hh => by
    apply hl
    rw [List.getLast?_eq_some_getLast hne]
    congr 1
    exact UInt8.toNat_inj.1 hh
  omega

def attrB (name key value : List UInt8) : List UInt8 := [61, 61, 61, 32, 65, 84, 84, 82, 32, 32] ++ (name ++ 32 :: (key ++ 32 :: value))
def attrE (name key value : List UInt8) : Ev := { Ev.of tAttr name with key := key, value := value }
/-- The law of FnAttribute. -/
theorem attr_law (name key value : List UInt8) (h1 : Alnum name) (h1n : name ≠ []) (h1l : name.length ≤ 50) (h2 : Alnum key) (h2l : key.length ≤ 50) (h3 : AlnumB value) (h3n : value ≠ []) (h3l : value.length ≤ 100) (h3e : value.getLast? ≠ some 32) :
    convF [lineRun name ++ 22 :: (attrB name key value ++ [10])] 1 [] true = [Ev.of tstart [], Ev.of trun name, Ev.outT (tRun ++ name ++ [10]) tframe name, attrE name key value, Ev.outT (attrB name key value ++ [10]) tframe name, Ev.of tpass name] := by
  obtain ⟨x, t, _, _, e1, _, e3, _⟩ := h1.ends h1n
  obtain ⟨y, u, e2, e4⟩ := h3.last h3n h3e
  have hM : Txt (name ++ 32 :: (key ++ 32 :: value)) := h1.txt.app (Txt.app (a := [32]) (by unfold Txt; decide) (h2.txt.app (Txt.app (a := [32]) (by unfold Txt; decide) h3.txt)))
  have hT : Txt (attrB name key value) := Txt.app (by unfold Txt; decide) hM
  have hlen : (attrB name key value).length < 1000 := by unfold attrB; simp; omega
  have ht := trim_mid [32] (name ++ 32 :: (key ++ 32 :: value)) (by decide) hM x y (t ++ 32 :: (key ++ 32 :: value)) (name ++ 32 :: (key ++ 32 :: u)) (by rw [e1]; rfl) (by rw [e2]; simp) e3 e4
  have hu := handle_upd name [] [] true [] [Ev.of tstart [], Ev.of trun name, Ev.outT (tRun ++ name ++ [10]) tframe name] ([65, 84, 84, 82], [32]) (by decide) ((name ++ 32 :: (key ++ 32 :: value)) ++ [10]) (attrB name key value)
    (by unfold attrB; simp) hT hlen (by decide) (by decide) (name ++ 32 :: (key ++ 32 :: value)) ht { Ev.of tAttr [] with key := key, value := value } name
    (by unfold updE; rw [if_neg (by decide), if_pos (by decide), cutF_one _ _ h1.noBlank]; dsimp only; rw [cutF_one _ _ h2.noBlank]; rfl) rfl
  refine (conv_two (lineRun name) (22 :: (attrB name key value ++ [10])) (lineRun_ok _ h1) ?_ ?_ name [] true _ (by rw [start_run name h1 h1n h1l, hu])).trans ?_
  · have := (Txt.plain22 hT).ok
    exact this
  · rw [lineRun_len]; simp; omega
  · rfl

def artB (name path : List UInt8) : List UInt8 := [61, 61, 61, 32, 65, 82, 84, 73, 70, 65, 67, 84, 83, 32] ++ (name ++ 32 :: path)
def artE (name path : List UInt8) : Ev := { Ev.of tArt name with path := path }
/-- The law of FnArtifacts. -/
theorem art_law (name path : List UInt8) (h1 : Alnum name) (h1n : name ≠ []) (h1l : name.length ≤ 50) (h3 : AlnumB path) (h3n : path ≠ []) (h3l : path.length ≤ 100) (h3e : path.getLast? ≠ some 32) :
    convF [lineRun name ++ 22 :: (artB name path ++ [10])] 1 [] true = [Ev.of tstart [], Ev.of trun name, Ev.outT (tRun ++ name ++ [10]) tframe name, artE name path, Ev.outT (artB name path ++ [10]) tframe name, Ev.of tpass name] := by
  obtain ⟨x, t, _, _, e1, _, e3, _⟩ := h1.ends h1n
  obtain ⟨y, u, e2, e4⟩ := h3.last h3n h3e
  have hM : Txt (name ++ 32 :: path) := h1.txt.app (Txt.app (a := [32]) (by unfold Txt; decide) h3.txt)
  have hT : Txt (artB name path) := Txt.app (by unfold Txt; decide) hM
  have hlen : (artB name path).length < 1000 := by unfold artB; simp; omega
  have ht := trim_mid [] (name ++ 32 :: path) (by simp) hM x y (t ++ 32 :: path) (name ++ 32 :: u) (by rw [e1]; rfl) (by rw [e2]; simp) e3 e4
  have hu := handle_upd name [] [] true [] [Ev.of tstart [], Ev.of trun name, Ev.outT (tRun ++ name ++ [10]) tframe name] ([65, 82, 84, 73, 70, 65, 67, 84, 83], []) (by decide) ((name ++ 32 :: path) ++ [10]) (artB name path)
    (by unfold artB; simp) hT hlen (by decide) (by decide) (name ++ 32 :: path) ht { Ev.of tArt [] with path := path } name
    (by unfold updE; rw [if_pos (by decide), cutF_one _ _ h1.noBlank]; rfl) rfl
  refine (conv_two (lineRun name) (22 :: (artB name path ++ [10])) (lineRun_ok _ h1) ?_ ?_ name [] true _ (by rw [start_run name h1 h1n h1l, hu])).trans ?_
  · have := (Txt.plain22 hT).ok
    exact this
  · rw [lineRun_len]; simp; omega
  · rfl

/-- The law of FnResult. -/
theorem result_law (exit : Int) (h : exit = 1 ∨ exit = 2) : convF [] exit [] true = [Ev.of tstart [], Ev.of (if exit = 2 then tfail else tpass) []] := by
  rcases h with rfl | rfl <;> rfl

/-- Markers with an escape ahead. -/
def isMark (c : UInt8) : Bool := c == 22 || c == 15 || c == 14 || c == 27
def escL : List UInt8 → List UInt8
  | [] => []
  | c :: t => if isMark c = true then 27 :: c :: escL t else c :: escL t
theorem escL_len : ∀ t : List UInt8, (escL t).length ≤ 2 * t.length
  | [] => Nat.le_refl _
  | c :: t => by
    have := escL_len t
    unfold escL
    split <;> simp <;> omega
theorem isMark_no {c : UInt8} (h : ¬ isMark c = true) : c ≠ 22 ∧ c ≠ 15 ∧ c ≠ 14 ∧ c ≠ 27 := by
  unfold isMark at h
  simp at h
  exact ⟨h.1.1.1, h.1.1.2, h.1.2, h.2⟩
theorem eolF_esc : ∀ (t r : List UInt8) (i : Nat), 10 ∉ t → 0 < i → eolF false i (escL t ++ 10 :: r) = (some (i + (escL t).length, 1), false)
  | [], r, i, _, _ => by
    show eolF false i (10 :: r) = _
    unfold eolF
    rw [if_pos rfl]; rfl
  | c :: t, r, i, h, hi => by
    have c10 : c ≠ 10 := fun hh => h (by simp [hh])
    have h' : 10 ∉ t := fun hh => h (by simp [hh])
    unfold escL
    split
    · show eolF false i (27 :: c :: (escL t ++ 10 :: r)) = _
      unfold eolF
      rw [if_neg (by decide), if_neg (by simp), if_pos rfl]
      unfold eolF
      rw [if_neg c10, if_pos rfl, eolF_esc t r (i + 1 + 1) h' (by omega)]
      simp; omega
    · rename_i hm
      have hn := isMark_no hm
      show eolF false i (c :: (escL t ++ 10 :: r)) = _
      unfold eolF
      rw [if_neg c10, if_neg (by simp), if_neg hn.2.2.2, if_neg (fun hh => hn.1 hh.1), eolF_esc t r (i + 1) h' (by omega)]
      simp; omega
theorem woL_escs (nm rep res mf fb evs ty) : ∀ (t acc : List UInt8) (q : Nat), (escL t ++ [10]).length ≤ q → woL q (S0 nm rep res mf fb evs) ty acc (escL t ++ [10]) = emitN (S0 nm rep res mf fb evs) (acc ++ t ++ [10]) ty
  | [], acc, q, hq => by
    show woL q (S0 nm rep res mf fb evs) ty acc [10] = _
    rw [woL_else rfl (by decide) (by decide) (by decide) hq, woL_nil]
    simp
  | c :: t, acc, q, hq => by
    unfold escL at hq ⊢
    split
    · rename_i hm
      rw [if_pos hm] at hq
      simp only [List.cons_append] at hq ⊢
      rw [woL_27 rfl hq, woL_esc rfl (by simp at hq ⊢; omega)]
      have e : ({ { S0 nm rep res mf fb evs with mEsc := true } with mEsc := false } : CS) = S0 nm rep res mf fb evs := rfl
      rw [e, woL_escs nm rep res mf fb evs ty t (acc ++ [c]) (q - 1 - 1) (by simp at hq ⊢; omega)]
      simp
    · rename_i hm
      rw [if_neg hm] at hq
      have hn := isMark_no hm
      simp only [List.cons_append] at hq ⊢
      rw [woL_else rfl hn.2.2.2 hn.2.1 hn.2.2.1 hq, woL_escs nm rep res mf fb evs ty t (acc ++ [c]) (q - 1) (by simp at hq ⊢; omega)]
      simp

/-- The law of FnEscaped. -/
theorem esc_law (name text : List UInt8) (h1 : Alnum name) (h1n : name ≠ []) (h1l : name.length ≤ 50) (h2 : 10 ∉ text) (h2l : text.length ≤ 500) :
    convF [lineRun name ++ 120 :: (escL text ++ [10])] 1 [] true = [Ev.of tstart [], Ev.of trun name, Ev.outT (tRun ++ name ++ [10]) tframe name, Ev.outT (120 :: (text ++ [10])) [] name, Ev.of tpass name] := by
  have hel := escL_len text
  have hok : EolOk (120 :: (escL text ++ [10])) := by
    refine ⟨by simp, fun r => ⟨1 + (escL text).length, 1, ?_, by simp; omega⟩⟩
    show eolF false 0 (120 :: (escL text ++ [10] ++ r)) = _
    unfold eolF
    rw [if_neg (by decide), if_neg (by simp), if_neg (by decide), if_neg (fun hh => by simp at hh), List.append_assoc, List.singleton_append, eolF_esc text r 1 h2 (by omega)]
  refine (conv_two (lineRun name) (120 :: (escL text ++ [10])) (lineRun_ok _ h1) hok (by rw [lineRun_len]; simp; omega) name [] true _ (by
    rw [start_run name h1 h1n h1l]
    unfold handleF
    dsimp only
    rw [if_pos ⟨rfl, by decide⟩, outW_whole _ _ hok (by simp; omega) rfl]
    have hw : woF (S0 name [] [] true [] [Ev.of tstart [], Ev.of trun name, Ev.outT (tRun ++ name ++ [10]) tframe name]) (120 :: (escL text ++ [10])) = S0 name [] [] true [] [Ev.of tstart [], Ev.of trun name, Ev.outT (tRun ++ name ++ [10]) tframe name, Ev.outT (120 :: (text ++ [10])) [] name] := by
      unfold woF
      rw [woL_else rfl (by decide) (by decide) (by decide) (Nat.le_refl _), woL_escs _ _ _ _ _ _ _ text _ _ (by simp)]
      unfold emitN
      rw [if_neg (by simp), emit_S0 _ _ _ _ _ _ _ rfl]
      rfl
    rw [hw]
    rfl)).trans ?_
  rfl
theorem esc_outs (name text : List UInt8) (h1 : Alnum name) (h1n : name ≠ []) (h1l : name.length ≤ 50) (h2 : 10 ∉ text) (h2l : text.length ≤ 500) :
    outsL (convF [lineRun name ++ 120 :: (escL text ++ [10])] 1 [] true) = tRun ++ name ++ [10] ++ 120 :: (text ++ [10]) := by
  rw [esc_law name text h1 h1n h1l h2 h2l]
  unfold outsL
  simp [Ev.outT, Ev.of, tOut, tstart, trun, tpass]

end Go.Proofs.YtdljobmhnnegiaaDoor
