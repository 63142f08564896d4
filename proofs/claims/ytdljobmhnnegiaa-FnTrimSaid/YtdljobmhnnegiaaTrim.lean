/- The walk of trimUTF8, ZZTrim, impl.Trim: over any bytes in memory they return what the plain function trimU says, and turn nothing. -/
import Derived.Test.YtdljobmhnnegiaaProg
import Derived.WalkKit
import Derived.WalkSpells
import Derived.WalkLawsBesides
import Derived.KernelRfl
import Derived.Lib.Hide
namespace Go.Proofs.Ytdljobmhnnegiaa
open Go.RowKit

/-- What trimUTF8 does from the i-th byte from the end on. -/
def trimFrom (l : List UInt8) : Nat → Nat → Nat
  | 0, _ => l.length
  | k + 1, i => if i < 4 ∧ i ≤ l.length then
      (if (l.getD (l.length - i) 0).toNat / 64 = 2 then trimFrom l k (i + 1)
       else if ((l.getD (l.length - i) 0).toNat / 32 = 6 ∧ i < 2) ∨ ((l.getD (l.length - i) 0).toNat / 16 = 14 ∧ i < 3) ∨ (l.getD (l.length - i) 0).toNat / 8 = 30 then l.length - i else l.length)
    else l.length
def trimU (l : List UInt8) : Nat := trimFrom l 4 1
/-- The rest's answer, behind a name. -/
def trimR (l : List UInt8) (i : Nat) : Nat := trimFrom l (5 - i) i

theorem trimFrom_le (l : List UInt8) : ∀ k i, trimFrom l k i ≤ l.length
  | 0, _ => Nat.le_refl _
  | k + 1, i => by
    simp only [trimFrom]
    split
    · split
      · exact trimFrom_le l k (i + 1)
      · split <;> omega
    · exact Nat.le_refl _
theorem trimFrom_gt (l : List UInt8) : ∀ k i, 1 ≤ i → 4 ≤ l.length → l.length < trimFrom l k i + 4
  | 0, _, _, _ => by simp only [trimFrom]; omega
  | k + 1, i, h, h4 => by
    simp only [trimFrom]
    split
    · split
      · exact trimFrom_gt l k (i + 1) (by omega) h4
      · split <;> omega
    · omega

theorem trimR_out (l : List UInt8) (i : Nat) (h : ¬ (i < 4 ∧ i ≤ l.length)) : trimR l i = l.length := by
  unfold trimR
  cases e : 5 - i with
  | zero => rfl
  | succ k => simp only [trimFrom]; rw [if_neg h]
theorem trimR_next (l : List UInt8) (i : Nat) (h : i < 4 ∧ i ≤ l.length) (c : (l.getD (l.length - i) 0).toNat / 64 = 2) : trimR l i = trimR l (i + 1) := by
  unfold trimR
  obtain ⟨k, e⟩ : ∃ k, 5 - i = k + 1 := ⟨4 - i, by omega⟩
  rw [e]; simp only [trimFrom]; rw [if_pos h, if_pos c, show 5 - (i + 1) = k by omega]
theorem trimR_cut (l : List UInt8) (i : Nat) (h : i < 4 ∧ i ≤ l.length) (c : ¬ (l.getD (l.length - i) 0).toNat / 64 = 2)
    (d : ((l.getD (l.length - i) 0).toNat / 32 = 6 ∧ i < 2) ∨ ((l.getD (l.length - i) 0).toNat / 16 = 14 ∧ i < 3) ∨ (l.getD (l.length - i) 0).toNat / 8 = 30) : trimR l i = l.length - i := by
  unfold trimR
  obtain ⟨k, e⟩ : ∃ k, 5 - i = k + 1 := ⟨4 - i, by omega⟩
  rw [e]; simp only [trimFrom]; rw [if_pos h, if_neg c, if_pos d]
theorem trimR_all (l : List UInt8) (i : Nat) (h : i < 4 ∧ i ≤ l.length) (c : ¬ (l.getD (l.length - i) 0).toNat / 64 = 2)
    (d : ¬ (((l.getD (l.length - i) 0).toNat / 32 = 6 ∧ i < 2) ∨ ((l.getD (l.length - i) 0).toNat / 16 = 14 ∧ i < 3) ∨ (l.getD (l.length - i) 0).toNat / 8 = 30)) : trimR l i = l.length := by
  unfold trimR
  obtain ⟨k, e⟩ : ∃ k, 5 - i = k + 1 := ⟨4 - i, by omega⟩
  rw [e]; simp only [trimFrom]; rw [if_pos h, if_neg c, if_neg d]

theorem masks : ∀ c : Fin 256, (bits BinOp.and IntKind.u8 (c.val : Int) 192 != 128) = !decide (c.val / 64 = 2) ∧ (bits BinOp.and IntKind.u8 (c.val : Int) 224 == 192) = decide (c.val / 32 = 6) ∧
    (bits BinOp.and IntKind.u8 (c.val : Int) 240 == 224) = decide (c.val / 16 = 14) ∧ (bits BinOp.and IntKind.u8 (c.val : Int) 248 == 240) = decide (c.val / 8 = 30) := by decide +kernel
theorem masks_of (c : UInt8) : (bits BinOp.and IntKind.u8 (c.toNat : Int) 192 != 128) = !decide (c.toNat / 64 = 2) ∧ (bits BinOp.and IntKind.u8 (c.toNat : Int) 224 == 192) = decide (c.toNat / 32 = 6) ∧
    (bits BinOp.and IntKind.u8 (c.toNat : Int) 240 == 224) = decide (c.toNat / 16 = 14) ∧ (bits BinOp.and IntKind.u8 (c.toNat : Int) 248 == 240) = decide (c.toNat / 8 = 30) := masks ⟨c.toNat, c.toNat_lt⟩

theorem ret_int {k : IntKind} {a b : Int} (h : a = b) : Ending.returned (.int k a) = .returned (.int k b) := by rw [h]

set_option maxHeartbeats 400000 in
theorem trim_any (b off cap : Nat) (cs : List UInt8) (w : World) (n : Nat) (hn : n = cs.length) (hs : n ≤ 140737488351232)
   (hc : ∀ j, j < cs.length → w.cell? ⟨b, off + j, none⟩ = some (.int .u8 (cs.getD j 0).toNat)) :
    Calls Try.prog 10 #[.slice (some ⟨b, off, none⟩) n cap] w fun e w' => e = .returned (.int .i64 (trimU cs)) ∧ w = w' := by
  have HC := Lib.hid hc
  have HN := Lib.hid hn
  clear hc hn
  go_enter Try.func10, Try.ntmps10
  go_wp2
  go_loop [3] (fun v3 => ∃ i : Nat, 1 ≤ i ∧ i ≤ 4 ∧ v3 = .int .i64 i ∧ Hid (trimU cs = trimR cs i)) (fun i => 4 - (intOf i).toNat)
  case atStart => exact ⟨1, by omega, by omega, rfl, rfl⟩
  case round =>
    obtain ⟨i, h1, h4, rfl, HT⟩ := hrel
    by_cases hi : i < 4 ∧ i ≤ n
    · have HI : Hid (i < 4 ∧ i ≤ cs.length) := by have := HN.out; subst this; exact hi
      obtain ⟨hi4, hin⟩ := hi
      have hcell := HC.out (n - i) (by have := HN.out; omega)
      obtain ⟨c, hcc⟩ : ∃ c, c = cs.getD (n - i) 0 := ⟨_, rfl⟩
      rw [← hcc] at hcell
      have HCC : Hid (c = cs.getD (cs.length - i) 0) := by have := HN.out; subst this; exact hcc
      clear hcc
      obtain ⟨m1, m2, m3, m4⟩ := masks_of c
      have e : ((n : Int) - (i : Int)) = ((n - i : Nat) : Int) := by omega
      by_cases c1 : c.toNat / 64 = 2
      · have b1 : decide (c.toNat / 64 = 2) = true := by simpa using c1
        have C1 := Lib.hid c1; clear c1
        go_wp2
        go_round
        case rel => exact ⟨i + 1, by omega, by omega, by go_num, HT.out.trans (trimR_next cs i HI.out (by rw [← HCC.out]; exact C1.out))⟩
        case measure => simp [intOf]; omega
      · have b1 : decide (c.toNat / 64 = 2) = false := by simpa using c1
        have C1 := Lib.hid c1; clear c1
        by_cases c2 : c.toNat / 32 = 6
        · have b2 : decide (c.toNat / 32 = 6) = true := by simpa using c2
          have C2 := Lib.hid c2; clear c2
          by_cases d : i < 2
          all_goals
            go_wp2
            go_ret
            refine ⟨ret_int ?_, rfl⟩
          · rw [HT.out, trimR_cut cs i HI.out (by rw [← HCC.out]; exact C1.out) (by rw [← HCC.out]; exact .inl ⟨C2.out, d⟩), HN.out]
          · rw [HT.out, trimR_all cs i HI.out (by rw [← HCC.out]; exact C1.out) (by rw [← HCC.out]; have := C2.out; omega), HN.out]
        · have b2 : decide (c.toNat / 32 = 6) = false := by simpa using c2
          have C2 := Lib.hid c2; clear c2
          by_cases c3 : c.toNat / 16 = 14
          · have b3 : decide (c.toNat / 16 = 14) = true := by simpa using c3
            have C3 := Lib.hid c3; clear c3
            by_cases d : i < 3
            all_goals
              go_wp2
              go_ret
              refine ⟨ret_int ?_, rfl⟩
            · rw [HT.out, trimR_cut cs i HI.out (by rw [← HCC.out]; exact C1.out) (by rw [← HCC.out]; exact .inr (.inl ⟨C3.out, d⟩)), HN.out]
            · rw [HT.out, trimR_all cs i HI.out (by rw [← HCC.out]; exact C1.out) (by rw [← HCC.out]; have := C3.out; omega), HN.out]
          · have b3 : decide (c.toNat / 16 = 14) = false := by simpa using c3
            have C3 := Lib.hid c3; clear c3
            by_cases c4 : c.toNat / 8 = 30
            · have b4 : decide (c.toNat / 8 = 30) = true := by simpa using c4
              have C4 := Lib.hid c4; clear c4
              go_wp2
              go_ret
              refine ⟨ret_int ?_, rfl⟩
              rw [HT.out, trimR_cut cs i HI.out (by rw [← HCC.out]; exact C1.out) (by rw [← HCC.out]; exact .inr (.inr C4.out)), HN.out]
            · have b4 : decide (c.toNat / 8 = 30) = false := by simpa using c4
              have C4 := Lib.hid c4; clear c4
              go_wp2
              go_ret
              refine ⟨ret_int ?_, rfl⟩
              rw [HT.out, trimR_all cs i HI.out (by rw [← HCC.out]; exact C1.out) (by rw [← HCC.out]; have := C2.out; have := C3.out; have := C4.out; omega), HN.out]
    · have HI : Hid (¬ (i < 4 ∧ i ≤ cs.length)) := by have := HN.out; subst this; exact hi
      by_cases hi4 : i < 4
      · have hin : n < i := by omega
        clear hi
        go_wp2
        go_ret
        exact ⟨ret_int (by rw [HT.out, trimR_out cs i HI.out, HN.out]), rfl⟩
      · clear hi
        go_wp2
        go_ret
        exact ⟨ret_int (by rw [HT.out, trimR_out cs i HI.out, HN.out]), rfl⟩

end Go.Proofs.Ytdljobmhnnegiaa
