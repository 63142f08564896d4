/- The walk of spec.Begun: where it returns true the bytes ahead of the cut stand in whole characters. -/
import Derived.Test.YtdljobmhnnegiaaTrimLaw
namespace Go.Proofs.Ytdljobmhnnegiaa
open Go.RowKit

theorem cutR_le (l : List UInt8) : ∀ (d i : Nat), 4 - i ≤ d → cutR l i ≤ l.length
  | 0, i, h => by rw [cutR_out l i (by omega)]; exact Nat.le_refl _
  | d + 1, i, h => by
    by_cases hin : i ≤ 3 ∧ i ≤ l.length
    · by_cases c : (l.getD (l.length - i) 0).toNat / 64 = 2
      · rw [cutR_next l i hin c]; exact cutR_le l d (i + 1) (by omega)
      · by_cases e : i < szB (l.getD (l.length - i) 0).toNat
        · rw [cutR_cut l i hin c e]; omega
        · rw [cutR_all l i hin c e]; exact Nat.le_refl _
    · rw [cutR_out l i hin]; exact Nat.le_refl _

/-- What is wanted of Begun's yes. -/
def Good (s : ByteArray) : Prop := cutU s.data.toList = s.data.toList.length → ∀ k, k < s.data.toList.length → ¬ badB (s.data.toList.getD k 0).toNat

theorem good_of (s : ByteArray) (h : vldB (s.extract 0 (cutU s.data.toList)) = true) : Good s := by
  intro he k hk
  have hL : s.data.toList.length = s.size := by simp
  have hk' : k < s.size := by omega
  have e1 : s.extract 0 (cutU s.data.toList) = s := by rw [he, hL]; exact ByteArray.extract_zero_size
  rw [e1] at h
  have := vldR_good s s.size 0 (by omega) h k (by omega) hk'
  rw [getD_at s k hk']
  exact this

def BegunPost (s : ByteArray) (w : World) (e : Ending) (w' : World) : Prop := ∃ b, e = .returned (.bool b) ∧ (b = true → Good s) ∧ Below w.heap.size w w'

set_option maxRecDepth 100000 in
set_option maxHeartbeats 800000 in
theorem begun_any (s : ByteArray) (w : World) (hs : s.size ≤ 140737488351232) :
    Calls Try.prog 4 #[.string s] w (BegunPost s w) := by
  have hL : s.data.toList.length = s.size := by simp
  obtain ⟨n, hn⟩ : ∃ n, n = cutU s.data.toList := ⟨_, rfl⟩
  have hle : n ≤ s.size := by rw [hn]; have := cutR_le s.data.toList 4 1 (by omega); unfold cutU; omega
  have HN := Lib.hid hn
  clear hL hn
  have HCut := Lib.hid (fun w => (cut_any s w hs))
  rw [← HN.out] at HCut
  obtain ⟨v, hv⟩ : ∃ v, v = vldB (s.extract 0 n) := ⟨_, rfl⟩
  have HV := Lib.hid hv
  clear hv
  have HVal := Lib.hid (fun w => (valid_any (s.extract 0 n) w))
  rw [← HV.out] at HVal
  have HB : Hid (∀ (w' : World) t p (b : Bool), w' = w.alloc (.stringIter t p) → v = true → BegunPost s w (.returned (.bool b)) w') := by
    intro w' t p b hw hvt
    subst hw
    exact ⟨b, rfl, fun _ => good_of s (by rw [← HN.out, ← HV.out, hvt]), (Below.refl _ _).alloc (Nat.le_refl _) _⟩
  have HF : Hid (∀ (w' : World) t p, w' = w.alloc (.stringIter t p) → BegunPost s w (.returned (.bool false)) w') := by
    intro w' t p hw
    subst hw
    exact ⟨false, rfl, (fun h => by cases h), (Below.refl _ _).alloc (Nat.le_refl _) _⟩
  clear HN
  cases v with
  | false =>
    clear HV
    go_enter Try.func4, Try.ntmps4
    go_wp2_with (first | (go_at_call 6; refine (HCut.out _).mono ?_; rintro e w' ⟨rfl, rfl⟩) | (go_at_call 7; refine (HVal.out _).mono ?_; rintro e w' ⟨rfl, ⟨p, rfl⟩⟩))
    go_ret
    exact HF.out _ _ _ rfl
  | true =>
    clear HV
    by_cases h3 : 3 < s.size - n
    · go_enter Try.func4, Try.ntmps4
      go_wp2_with (first | (go_at_call 6; refine (HCut.out _).mono ?_; rintro e w' ⟨rfl, rfl⟩) | (go_at_call 7; refine (HVal.out _).mono ?_; rintro e w' ⟨rfl, ⟨p, rfl⟩⟩))
      go_ret
      exact HF.out _ _ _ rfl
    · go_enter Try.func4, Try.ntmps4
      go_wp2_with (first | (go_at_call 6; refine (HCut.out _).mono ?_; rintro e w' ⟨rfl, rfl⟩) | (go_at_call 7; refine (HVal.out _).mono ?_; rintro e w' ⟨rfl, ⟨p, rfl⟩⟩))
      go_loop [4] (fun v4 => ∃ i : Nat, n + 1 ≤ i ∧ i ≤ n + 5 ∧ v4 = .int .i64 i) (fun i => s.size - (intOf i).toNat)
      case atStart => exact ⟨n + 1, by omega, by omega, by go_num⟩
      case round =>
        obtain ⟨i, h1, h2, rfl⟩ := hrel
        by_cases hi : i < s.size
        · obtain ⟨m, hm⟩ : ∃ m, m = (s[i]'hi).toNat := ⟨_, rfl⟩
          have hms : ((s[i]'hi).toNat : Int) = (m : Int) := by rw [hm]
          clear hm
          by_cases g1 : m < 128
          · go_wp2
            go_ret
            exact HB.out _ _ _ _ rfl (by first | rfl | trivial)
          · by_cases g2 : 192 ≤ m
            · go_wp2
              go_ret
              exact HB.out _ _ _ _ rfl (by first | rfl | trivial)
            · go_wp2
              go_round
              case rel => exact ⟨i + 1, by omega, by omega, by go_num⟩
              case measure => simp [intOf]; omega
        · by_cases g : n = s.size
          · subst g
            go_wp2
            go_ret
            exact HB.out _ _ _ _ rfl (by first | rfl | trivial)
          · have hlt : n < s.size := by omega
            have hne : ((n : Int) == (s.size : Int)) = false := by simp; omega
            obtain ⟨m, hm⟩ : ∃ m, m = (s[n]'hlt).toNat := ⟨_, rfl⟩
            have hms : ((s[n]'hlt).toNat : Int) = (m : Int) := by rw [hm]
            clear hm
            go_wp2_with (go_at_call 8; refine (size_any _ _).mono ?_; rintro e w' ⟨rfl, rfl⟩)
            go_ret
            exact HB.out _ _ _ _ rfl (by first | rfl | trivial)

end Go.Proofs.Ytdljobmhnnegiaa
