/- The walks of spec.size, spec.Cut, ZZTrim, impl.Trim: each returns what a plain function says, for every argument. -/
import Derived.Test.YtdljobmhnnegiaaTrim
import Derived.Test.YtdljobmhnnegiaaValid
namespace Go.Proofs.Ytdljobmhnnegiaa
open Go.RowKit

/-- How many bytes a character with first byte c has. -/
def szB (c : Nat) : Nat := if c < 128 then 1 else if 194 ≤ c ∧ c < 224 then 2 else if 224 ≤ c ∧ c < 240 then 3 else if 240 ≤ c ∧ c < 245 then 4 else 0

set_option maxRecDepth 100000 in
set_option maxHeartbeats 400000 in
theorem size_any (c : Nat) (w : World) : Calls Try.prog 8 #[.int .u8 c] w fun e w' => e = .returned (.int .i64 (szB c)) ∧ w = w' := by
  by_cases h1 : c < 128
  · go_enter Try.func8, Try.ntmps8
    go_wp2
    go_ret
    exact ⟨ret_int (by unfold szB; rw [if_pos h1]; rfl), rfl⟩
  · by_cases h2 : 194 ≤ c
    · by_cases h3 : c < 224
      · go_enter Try.func8, Try.ntmps8
        go_wp2
        go_ret
        exact ⟨ret_int (by unfold szB; rw [if_neg h1, if_pos ⟨h2, h3⟩]; rfl), rfl⟩
      · by_cases h4 : c < 240
        · go_enter Try.func8, Try.ntmps8
          go_wp2
          go_ret
          exact ⟨ret_int (by unfold szB; rw [if_neg h1, if_neg (by omega), if_pos (by omega)]; rfl), rfl⟩
        · by_cases h5 : c < 245
          all_goals
            go_enter Try.func8, Try.ntmps8
            go_wp2
            go_ret
            refine ⟨ret_int ?_, rfl⟩
          · unfold szB; rw [if_neg h1, if_neg (by omega), if_neg (by omega), if_pos (by omega)]; rfl
          · unfold szB; rw [if_neg h1, if_neg (by omega), if_neg (by omega), if_neg (by omega)]; rfl
    · go_enter Try.func8, Try.ntmps8
      go_wp2
      go_ret
      exact ⟨ret_int (by unfold szB; rw [if_neg h1, if_neg (by omega), if_neg (by omega), if_neg (by omega)]; rfl), rfl⟩

/-- What Cut does from the i-th byte from the end on. -/
def cutFrom (l : List UInt8) : Nat → Nat → Nat
  | 0, _ => l.length
  | k + 1, i => if i ≤ 3 ∧ i ≤ l.length then
      (if (l.getD (l.length - i) 0).toNat / 64 = 2 then cutFrom l k (i + 1)
       else if i < szB (l.getD (l.length - i) 0).toNat then l.length - i else l.length)
    else l.length
def cutR (l : List UInt8) (i : Nat) : Nat := cutFrom l (5 - i) i
def cutU (l : List UInt8) : Nat := cutR l 1
theorem cutR_out (l : List UInt8) (i : Nat) (h : ¬ (i ≤ 3 ∧ i ≤ l.length)) : cutR l i = l.length := by
  unfold cutR
  cases e : 5 - i with
  | zero => rfl
  | succ k => simp only [cutFrom]; rw [if_neg h]
theorem cutR_next (l : List UInt8) (i : Nat) (h : i ≤ 3 ∧ i ≤ l.length) (c : (l.getD (l.length - i) 0).toNat / 64 = 2) : cutR l i = cutR l (i + 1) := by
  unfold cutR
  obtain ⟨k, e⟩ : ∃ k, 5 - i = k + 1 := ⟨4 - i, by omega⟩
  rw [e]; simp only [cutFrom]; rw [if_pos h, if_pos c, show 5 - (i + 1) = k by omega]
theorem cutR_cut (l : List UInt8) (i : Nat) (h : i ≤ 3 ∧ i ≤ l.length) (c : ¬ (l.getD (l.length - i) 0).toNat / 64 = 2)
    (d : i < szB (l.getD (l.length - i) 0).toNat) : cutR l i = l.length - i := by
  unfold cutR
  obtain ⟨k, e⟩ : ∃ k, 5 - i = k + 1 := ⟨4 - i, by omega⟩
  rw [e]; simp only [cutFrom]; rw [if_pos h, if_neg c, if_pos d]
theorem cutR_all (l : List UInt8) (i : Nat) (h : i ≤ 3 ∧ i ≤ l.length) (c : ¬ (l.getD (l.length - i) 0).toNat / 64 = 2)
    (d : ¬ i < szB (l.getD (l.length - i) 0).toNat) : cutR l i = l.length := by
  unfold cutR
  obtain ⟨k, e⟩ : ∃ k, 5 - i = k + 1 := ⟨4 - i, by omega⟩
  rw [e]; simp only [cutFrom]; rw [if_pos h, if_neg c, if_neg d]

theorem getD_at (s : ByteArray) (k : Nat) (h : k < s.size) : s.data.toList.getD k 0 = s[k]'h := by
  have h' : k < s.data.toList.length := by simpa using h
  rw [List.getD_eq_getElem?_getD, List.getElem?_eq_getElem h']; rfl

set_option maxRecDepth 100000 in
set_option maxHeartbeats 400000 in
theorem cut_any (s : ByteArray) (w : World) (hs : s.size ≤ 140737488351232) :
    Calls Try.prog 6 #[.string s] w fun e w' => e = .returned (.int .i64 (cutU s.data.toList)) ∧ w = w' := by
  have hL : s.data.toList.length = s.size := by simp
  have HL := Lib.hid hL
  clear hL
  go_enter Try.func6, Try.ntmps6
  go_wp2
  go_loop [3] (fun v3 => ∃ i : Nat, 1 ≤ i ∧ i ≤ 4 ∧ v3 = .int .i64 i ∧ Hid (cutU s.data.toList = cutR s.data.toList i)) (fun i => 4 - (intOf i).toNat)
  case atStart => exact ⟨1, by omega, by omega, rfl, rfl⟩
  case round =>
    obtain ⟨i, h1, h4, rfl, HT⟩ := hrel
    by_cases hi : i ≤ 3 ∧ i ≤ s.size
    · have HI : Hid (i ≤ 3 ∧ i ≤ s.data.toList.length) := by rw [HL.out]; exact hi
      obtain ⟨hi4, hin⟩ := hi
      have e : ((s.size : Int) - (i : Int)) = ((s.size - i : Nat) : Int) := by omega
      have hlt : s.size - i < s.size := by omega
      obtain ⟨c, hcc⟩ : ∃ c, c = s[s.size - i]'hlt := ⟨_, rfl⟩
      have HCC : Hid (s.data.toList.getD (s.data.toList.length - i) 0 = c) := by
        show _ = _
        rw [HL.out, hcc, getD_at s _ hlt]
      obtain ⟨m, hm⟩ : ∃ m, m = c.toNat := ⟨_, rfl⟩
      have hcs : ((s[s.size - i]'hlt).toNat : Int) = (m : Int) := by rw [← hcc, hm]
      have HM := Lib.hid hm
      have hb : m < 256 := by have := c.toNat_lt; omega
      clear hcc hm
      by_cases c1 : m / 64 = 2
      · have C1 := Lib.hid c1
        have g1 : 128 ≤ m := by omega
        have g2 : m < 192 := by omega
        clear c1
        go_wp2
        go_round
        case rel => exact ⟨i + 1, by omega, by omega, by go_num, HT.out.trans (cutR_next _ i HI.out (by rw [HCC.out, ← HM.out]; exact C1.out))⟩
        case measure => simp [intOf]; omega
      · have C1 := Lib.hid c1
        by_cases g1 : 128 ≤ m
        · have g2 : 192 ≤ m := by omega
          clear c1
          by_cases d : i < szB m
          all_goals
            go_wp2_with (go_at_call 8; refine (size_any _ _).mono ?_; rintro e w' ⟨rfl, rfl⟩)
            go_ret
            refine ⟨ret_int ?_, rfl⟩
          · rw [HT.out, cutR_cut _ i HI.out (by rw [HCC.out, ← HM.out]; exact C1.out) (by rw [HCC.out, ← HM.out]; exact d), HL.out]
          · rw [HT.out, cutR_all _ i HI.out (by rw [HCC.out, ← HM.out]; exact C1.out) (by rw [HCC.out, ← HM.out]; exact d), HL.out]
        · clear c1
          by_cases d : i < szB m
          all_goals
            go_wp2_with (go_at_call 8; refine (size_any _ _).mono ?_; rintro e w' ⟨rfl, rfl⟩)
            go_ret
            refine ⟨ret_int ?_, rfl⟩
          · rw [HT.out, cutR_cut _ i HI.out (by rw [HCC.out, ← HM.out]; exact C1.out) (by rw [HCC.out, ← HM.out]; exact d), HL.out]
          · rw [HT.out, cutR_all _ i HI.out (by rw [HCC.out, ← HM.out]; exact C1.out) (by rw [HCC.out, ← HM.out]; exact d), HL.out]
    · have HI : Hid (¬ (i ≤ 3 ∧ i ≤ s.data.toList.length)) := by rw [HL.out]; exact hi
      by_cases hi4 : i ≤ 3
      · have hin : s.size < i := by omega
        clear hi
        go_wp2
        go_ret
        exact ⟨ret_int (by rw [HT.out, cutR_out _ i HI.out, HL.out]), rfl⟩
      · clear hi
        go_wp2
        go_ret
        exact ⟨ret_int (by rw [HT.out, cutR_out _ i HI.out, HL.out]), rfl⟩

set_option maxRecDepth 100000 in
set_option maxHeartbeats 400000 in
theorem zztrim_any (b off cap : Nat) (cs : List UInt8) (w : World) (n : Nat) (hn : n = cs.length) (hs : n ≤ 140737488351232)
   (hc : ∀ j, j < cs.length → w.cell? ⟨b, off + j, none⟩ = some (.int .u8 (cs.getD j 0).toNat)) :
    Calls Try.prog 9 #[.slice (some ⟨b, off, none⟩) n cap] w fun e w' => e = .returned (.int .i64 (trimU cs)) ∧ w = w' := by
  have HC := Lib.hid hc
  have HN := Lib.hid hn
  clear hc hn
  go_enter Try.func9, Try.ntmps9
  go_wp2_with (go_at_call 10; refine (trim_any b off cap cs _ n HN.out hs HC.out).mono ?_; rintro e w' ⟨rfl, rfl⟩)
  go_ret
  exact ⟨rfl, rfl⟩
set_option maxRecDepth 100000 in
set_option maxHeartbeats 400000 in
theorem itrim_any (b off cap : Nat) (cs : List UInt8) (w : World) (n : Nat) (hn : n = cs.length) (hs : n ≤ 140737488351232)
   (hc : ∀ j, j < cs.length → w.cell? ⟨b, off + j, none⟩ = some (.int .u8 (cs.getD j 0).toNat)) :
    Calls Try.prog 5 #[.slice (some ⟨b, off, none⟩) n cap] w fun e w' => e = .returned (.int .i64 (trimU cs)) ∧ w = w' := by
  have HC := Lib.hid hc
  have HN := Lib.hid hn
  clear hc hn
  go_enter Try.func5, Try.ntmps5
  go_wp2_with (go_at_call 9; refine (zztrim_any b off cap cs _ n HN.out hs HC.out).mono ?_; rintro e w' ⟨rfl, rfl⟩)
  go_ret
  exact ⟨rfl, rfl⟩

end Go.Proofs.Ytdljobmhnnegiaa
