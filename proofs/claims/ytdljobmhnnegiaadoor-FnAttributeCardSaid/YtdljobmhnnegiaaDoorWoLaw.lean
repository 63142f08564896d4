/- Small laws of the plain function woL. -/
import Derived.Test.YtdljobmhnnegiaaDoorConv
namespace Go.Proofs.YtdljobmhnnegiaaDoor

theorem emit_len (s : CS) (e : Ev) : (emit s e).evs.length = s.evs.length + 1 := by unfold emit; simp
theorem emitN_len (s : CS) (o ty : List UInt8) : (emitN s o ty).evs.length ≤ s.evs.length + 1 := by
  unfold emitN; split
  · omega
  · rw [emit_len]; omega
theorem woL_len : ∀ (q : Nat) (s : CS) (ty acc rest : List UInt8), (woL q s ty acc rest).evs.length ≤ s.evs.length + rest.length + 1
  | 0, s, ty, acc, rest => by unfold woL; have := emitN_len s (acc ++ rest) ty; omega
  | q + 1, s, ty, acc, [] => by unfold woL; have := emitN_len s acc ty; simp; omega
  | q + 1, s, ty, acc, c :: r => by
    unfold woL
    split
    · have := woL_len q { s with mEsc := false } ty (acc ++ [c]) r; simp at this ⊢; omega
    · split
      · have := woL_len q { s with mEsc := true } ty acc r; simp at this ⊢; omega
      · split
        · have h1 := woL_len q { emitN s acc ty with mErr := true } [101, 114, 114, 111, 114] (r.take 1) (r.drop 1)
          have h2 := emitN_len s acc ty
          simp at h1 ⊢
          omega
        · split
          · split
            · have h1 := woL_len q { emit s (.out (acc ++ [10]) ty) with mErr := false } [] ((r.drop 1).take 1) ((r.drop 1).drop 1)
              have h2 := emit_len s (.out (acc ++ [10]) ty)
              simp at h1 ⊢
              omega
            · have h1 := woL_len q { emit s (.out acc ty) with mErr := false } [] (r.take 1) (r.drop 1)
              have h2 := emit_len s (.out acc ty)
              simp at h1 ⊢
              omega
          · have := woL_len q s ty (acc ++ [c]) r; simp at this ⊢; omega
theorem woF_len (s : CS) (l : List UInt8) : (woF s l).evs.length ≤ s.evs.length + l.length + 1 := woL_len _ _ _ _ _

/-- The steps of the loop, one by one. -/
theorem woL_nil (q : Nat) (s : CS) (ty acc : List UInt8) : woL q s ty acc [] = emitN s acc ty := by
  cases q with
  | zero => unfold woL; rw [List.append_nil]
  | succ q => rfl
theorem woL_esc {q : Nat} {s : CS} {ty acc r : List UInt8} {c : UInt8} (h : s.mEsc = true) (hq : (c :: r).length ≤ q) : woL q s ty acc (c :: r) = woL (q - 1) { s with mEsc := false } ty (acc ++ [c]) r := by
  cases q with
  | zero => simp at hq
  | succ q => conv => lhs; unfold woL
              rw [if_pos h]; rfl
theorem woL_27 {q : Nat} {s : CS} {ty acc r : List UInt8} (h : s.mEsc = false) (hq : (27 :: r).length ≤ q) : woL q s ty acc (27 :: r) = woL (q - 1) { s with mEsc := true } ty acc r := by
  cases q with
  | zero => simp at hq
  | succ q => conv => lhs; unfold woL
              rw [if_neg (by rw [h]; simp), if_pos rfl]; rfl
theorem woL_15 {q : Nat} {s : CS} {ty acc r : List UInt8} (h : s.mEsc = false) (hq : (15 :: r).length ≤ q) : woL q s ty acc (15 :: r) = woL (q - 1) { emitN s acc ty with mErr := true } [101, 114, 114, 111, 114] (r.take 1) (r.drop 1) := by
  cases q with
  | zero => simp at hq
  | succ q => conv => lhs; unfold woL
              rw [if_neg (by rw [h]; simp), if_neg (by decide), if_pos rfl]; rfl
theorem woL_14n {q : Nat} {s : CS} {ty acc r : List UInt8} (h : s.mEsc = false) (hq : (14 :: 10 :: r).length ≤ q) : woL q s ty acc (14 :: 10 :: r) = woL (q - 1) { emit s (.out (acc ++ [10]) ty) with mErr := false } [] (r.take 1) (r.drop 1) := by
  cases q with
  | zero => simp at hq
  | succ q => conv => lhs; unfold woL
              rw [if_neg (by rw [h]; simp), if_neg (by decide), if_neg (by decide), if_pos rfl, if_pos (by rfl)]; rfl
theorem woL_14 {q : Nat} {s : CS} {ty acc r : List UInt8} (h : s.mEsc = false) (hr : r.head? ≠ some 10) (hq : (14 :: r).length ≤ q) : woL q s ty acc (14 :: r) = woL (q - 1) { emit s (.out acc ty) with mErr := false } [] (r.take 1) (r.drop 1) := by
  cases q with
  | zero => simp at hq
  | succ q => conv => lhs; unfold woL
              rw [if_neg (by rw [h]; simp), if_neg (by decide), if_neg (by decide), if_pos rfl, if_neg hr]; rfl
theorem woL_else {q : Nat} {s : CS} {ty acc r : List UInt8} {c : UInt8} (h : s.mEsc = false) (h1 : c ≠ 27) (h2 : c ≠ 15) (h3 : c ≠ 14) (hq : (c :: r).length ≤ q) : woL q s ty acc (c :: r) = woL (q - 1) s ty (acc ++ [c]) r := by
  cases q with
  | zero => simp at hq
  | succ q => conv => lhs; unfold woL
              rw [if_neg (by rw [h]; simp), if_neg h1, if_neg h2, if_neg h3]; rfl

end Go.Proofs.YtdljobmhnnegiaaDoor
