/- The walk of spec.Valid: it returns what the plain function vld says, for every string; it makes one block, its iterator. -/
import Derived.Test.YtdljobmhnnegiaaProg
import Derived.WalkKit
import Derived.WalkSpells
import Derived.WalkLawsBesides
import Derived.Laws.RangeAny
import Derived.KernelRfl
namespace Go.Proofs.Ytdljobmhnnegiaa
open Go.RowKit

/-- Whether no character from p on is U+FFFD (n rounds). -/
def vld (s : ByteArray) : Nat → Nat → Bool
  | 0, _ => true
  | n + 1, p => if p < s.size then (if (Utf8.decode s p).1 = 65533 then false else vld s n (p + (Utf8.decode s p).2)) else true

theorem decode_pos (s : ByteArray) (pos : Nat) (h : pos < s.size) : 1 ≤ (Utf8.decode s pos).2 := by
  by_cases ha : (s[pos]'h).toNat < 128
  · rw [decode_ascii s pos h ha]; exact Nat.le_refl 1
  · exact (decode_high s pos h (by omega)).2

theorem vld_fuel (s : ByteArray) : ∀ (n m p : Nat), s.size - p ≤ n → s.size - p ≤ m → vld s n p = vld s m p
  | 0, 0, _, _, _ => rfl
  | 0, m + 1, p, h, _ => by simp only [vld]; rw [if_neg (by omega)]
  | n + 1, 0, p, _, h => by simp only [vld]; rw [if_neg (by omega)]
  | n + 1, m + 1, p, h, h' => by
    simp only [vld]
    by_cases hp : p < s.size
    · have := decode_pos s p hp
      rw [if_pos hp, if_pos hp, vld_fuel s n m _ (by omega) (by omega)]
    · rw [if_neg hp, if_neg hp]

/-- The plain answer. -/
def vldB (s : ByteArray) : Bool := vld s s.size 0
/-- The rest's answer. -/
def vldR (s : ByteArray) (p : Nat) : Bool := vld s s.size p
theorem vldR_end (s : ByteArray) (p : Nat) (h : ¬ p < s.size) : vldR s p = true := by
  unfold vldR; rw [vld_fuel s s.size 0 p (by omega) (by omega)]; rfl
theorem vldR_bad (s : ByteArray) (p : Nat) (h : p < s.size) (h1 : (Utf8.decode s p).1 = 65533) : vldR s p = false := by
  unfold vldR; rw [vld_fuel s s.size (s.size + 1) p (by omega) (by omega)]; simp only [vld]; rw [if_pos h, if_pos h1]
theorem vldR_step (s : ByteArray) (p : Nat) (h : p < s.size) (h1 : ¬ (Utf8.decode s p).1 = 65533) : vldR s p = vldR s (p + (Utf8.decode s p).2) := by
  unfold vldR; rw [vld_fuel s s.size (s.size + 1) p (by omega) (by omega)]; simp only [vld]; rw [if_pos h, if_neg h1]

set_option maxHeartbeats 400000 in
theorem valid_any (s : ByteArray) (w : World) :
    Calls Try.prog 7 #[.string s] w fun e w' => e = .returned (.bool (vldB s)) ∧ ∃ p, w' = w.alloc (.stringIter s p) := by
  go_enter Try.func7, Try.ntmps7
  go_wp2
  go_loopw [7] (fun _ wr => ∃ p, wr = w.iter s p ∧ Hid (vldB s = vldR s p)) (fun _ wr => s.size - wr.iterPos w.heap.size)
  case atStart => exact ⟨0, rfl, rfl⟩
  case round =>
    obtain ⟨p, rfl, H⟩ := hrel
    by_cases hp : p < s.size
    · have hn := fun ty => run_next_any (P := Try.prog) w s p ty hp
      have hd := decode_pos s p hp
      have hl := decode_le s p
      go_wp2
      · have hb : (Utf8.decode s p).1 = 65533 := by
          have h : (((Utf8.decode s p).1 : Int) == 65533) = true := by assumption
          simp at h; omega
        go_ret
        exact ⟨by rw [H.out, vldR_bad s p hp hb]; rfl, _, rfl⟩
      · have hb : ¬ (Utf8.decode s p).1 = 65533 := by
          have h : (((Utf8.decode s p).1 : Int) == 65533) = false := by assumption
          simp at h; omega
        refine ⟨⟨_, rfl, ?_⟩, ?_⟩
        · exact H.out.trans (vldR_step s p hp hb)
        · rw [World.iterPos_iter, World.iterPos_iter]; omega
    · have hn := fun ty => run_next_end (P := Try.prog) w s p ty hp
      go_wp2
      go_ret
      exact ⟨by rw [H.out, vldR_end s p hp]; rfl, _, rfl⟩

end Go.Proofs.Ytdljobmhnnegiaa
