/- The plain law behind FnTrim: where the bytes ahead of the cut are whole characters, trimUTF8's answer and Cut's are one. -/
import Derived.Test.YtdljobmhnnegiaaCut
namespace Go.Proofs.Ytdljobmhnnegiaa
open Go.RowKit

/-- A byte that stands in no character. -/
def badB (n : Nat) : Prop := n = 192 ∨ n = 193 ∨ 245 ≤ n

theorem get!_at (s : ByteArray) (k : Nat) (h : k < s.size) : s.get! k = s[k]'h := by
  have := get_at s k h
  simpa using this

theorem decode_good (s : ByteArray) (p : Nat) (hd : ¬ (Utf8.decode s p).1 = 65533) :
    ∀ k, p ≤ k → k < p + (Utf8.decode s p).2 → ∀ h : k < s.size, ¬ badB (s[k]'h).toNat := by
  intro k hk1 hk2 h
  rw [← get!_at s k h]
  obtain ⟨j, rfl⟩ : ∃ j, k = p + j := ⟨k - p, by omega⟩
  unfold badB
  have hb : ∀ j, (s.get! (p + j)).toNat < 256 := fun j => (s.get! (p + j)).toNat_lt
  have b0 := hb 0; have b1 := hb 1; have b2 := hb 2; have b3 := hb 3
  simp only [Utf8.decode, Bool.and_eq_true, beq_iff_eq, decide_eq_true_eq, Utf8.valid, Bool.or_eq_true, ge_iff_le] at hd hk2
  split at hd
  · rename_i h0
    rw [if_pos h0] at hk2
    obtain rfl : j = 0 := by simp at hk2; omega
    omega
  · rename_i h0
    rw [if_neg h0] at hk2
    split at hd
    · rename_i h1
      rw [if_pos h1] at hk2
      split at hd
      · rename_i h2
        rw [if_pos h2] at hk2
        obtain rfl | rfl : j = 0 ∨ j = 1 := by simp at hk2; omega
        · omega
        · omega
      · exact absurd rfl hd
    · rename_i h1
      rw [if_neg h1] at hk2
      split at hd
      · rename_i h2
        rw [if_pos h2] at hk2
        split at hd
        · rename_i h3
          rw [if_pos h3] at hk2
          obtain rfl | rfl | rfl : j = 0 ∨ j = 1 ∨ j = 2 := by simp at hk2; omega
          · omega
          · omega
          · omega
        · exact absurd rfl hd
      · rename_i h2
        rw [if_neg h2] at hk2
        split at hd
        · rename_i h3
          rw [if_pos h3] at hk2
          split at hd
          · rename_i h4
            rw [if_pos h4] at hk2
            obtain rfl | rfl | rfl | rfl : j = 0 ∨ j = 1 ∨ j = 2 ∨ j = 3 := by simp at hk2; omega
            · omega
            · omega
            · omega
            · omega
          · exact absurd rfl hd
        · exact absurd rfl hd

theorem vldR_good (s : ByteArray) : ∀ (d p : Nat), s.size - p ≤ d → vldR s p = true → ∀ k, p ≤ k → ∀ h : k < s.size, ¬ badB (s[k]'h).toNat
  | 0, p, hd, _, k, hk, h => by omega
  | d + 1, p, hd, hv, k, hk, h => by
    have hp : p < s.size := by omega
    by_cases h1 : (Utf8.decode s p).1 = 65533
    · rw [vldR_bad s p hp h1] at hv; cases hv
    · by_cases h2 : k < p + (Utf8.decode s p).2
      · exact decode_good s p h1 k hk h2 h
      · rw [vldR_step s p hp h1] at hv
        have := decode_pos s p hp
        exact vldR_good s d _ (by omega) hv k (by omega) h

theorem trim_cut (l : List UInt8) (hg : cutU l = l.length → ∀ k, k < l.length → ¬ badB (l.getD k 0).toNat) : trimU l = cutU l := by
  have key : ∀ (d i : Nat), 4 - i ≤ d → 1 ≤ i → (cutR l i = l.length → ∀ k, k < l.length → ¬ badB (l.getD k 0).toNat) → trimR l i = cutR l i := by
    intro d
    induction d with
    | zero =>
      intro i hi h1 hg
      rw [trimR_out l i (by omega), cutR_out l i (by omega)]
    | succ d ih =>
      intro i hi h1 hg
      by_cases hin : i < 4 ∧ i ≤ l.length
      · have hin' : i ≤ 3 ∧ i ≤ l.length := by omega
        by_cases c : (l.getD (l.length - i) 0).toNat / 64 = 2
        · rw [trimR_next l i hin c, cutR_next l i hin' c]
          exact ih (i + 1) (by omega) (by omega) (by rw [cutR_next l i hin' c] at hg; exact hg)
        · have hlt := (l.getD (l.length - i) 0).toNat_lt
          by_cases d : i < szB (l.getD (l.length - i) 0).toNat
          · rw [cutR_cut l i hin' c d, trimR_cut l i hin c]
            generalize (l.getD (l.length - i) 0).toNat = m at *
            unfold szB at d
            split at d
            · omega
            · split at d
              · omega
              · split at d
                · omega
                · split at d <;> omega
          · have hgood := hg (cutR_all l i hin' c d) (l.length - i) (by omega)
            rw [cutR_all l i hin' c d, trimR_all l i hin c]
            generalize (l.getD (l.length - i) 0).toNat = m at *
            unfold badB at hgood
            unfold szB at d
            split at d
            · omega
            · split at d
              · omega
              · split at d
                · omega
                · split at d <;> omega
      · rw [trimR_out l i hin, cutR_out l i (by omega)]
  exact key 4 1 (by omega) (by omega) hg

end Go.Proofs.Ytdljobmhnnegiaa
