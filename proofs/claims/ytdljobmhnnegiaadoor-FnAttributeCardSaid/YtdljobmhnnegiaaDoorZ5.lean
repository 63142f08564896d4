/- The helpers of the laws: plain, proper tests, the lists that fit. -/
import Derived.Test.YtdljobmhnnegiaaDoorValid
import Derived.Test.YtdljobmhnnegiaaDoorZ4
import Derived.Test.YtdljobmhnnegiaaDoorWalkLinesM

/- spec.Plain (function 36): a string that it calls plain has letters, digits and blanks alone. -/
namespace Go.Proofs.YtdljobmhnnegiaaDoor
open Go.RowKit

def plainN (m : Nat) : Prop := (97 ≤ m ∧ m ≤ 122) ∨ (65 ≤ m ∧ m ≤ 90) ∨ (48 ≤ m ∧ m ≤ 57) ∨ m = 32
theorem all_take_succ (l : List UInt8) (p : UInt8 → Prop) (i : Nat) (hi : i < l.length) (h : ∀ c ∈ l.take i, p c) (h2 : p l[i]) : ∀ c ∈ l.take (i + 1), p c := by
  intro c hc
  rw [List.take_succ_eq_append_getElem hi] at hc
  rcases List.mem_append.1 hc with hc | hc
  · exact h c hc
  · rw [List.mem_singleton] at hc; subst hc; exact h2

def PlainPost (s : ByteArray) (w : World) (e : Ending) (w' : World) : Prop := ∃ b, e = .returned (.bool b) ∧ (b = true → ∀ c ∈ s.data.toList, plainN c.toNat) ∧ w = w'

set_option maxRecDepth 100000 in
set_option maxHeartbeats 4000000 in
theorem plainS_any (s : ByteArray) (w : World) (hs : s.size ≤ 140737488351232) : Calls Tryd.prog 36 #[.string s] w (PlainPost s w) := by
  go_enter Tryd.func36, Tryd.ntmps36
  go_wp2
  go_loop [7] (fun v7 => ∃ i : Nat, i ≤ s.size ∧ v7 = .int .i64 i ∧ Hid (∀ c ∈ s.data.toList.take i, plainN c.toNat)) (fun i => s.size - (intOf i).toNat)
  case atStart => exact ⟨0, Nat.zero_le _, rfl, fun c hc => by simp at hc⟩
  case round =>
    obtain ⟨i, hi, rfl, HA⟩ := hrel
    by_cases hlt : i < s.size
    · have hll : i < s.data.toList.length := by simpa using hlt
      have e : s.data.toList[i] = s[i]'hlt := rfl
      obtain ⟨m, hm⟩ : ∃ m, m = (s[i]'hlt).toNat := ⟨_, rfl⟩
      have hms : ((s[i]'hlt).toNat : Int) = (m : Int) := by rw [hm]
      have HM := Lib.hid hm
      clear hm
      rcases (show m < 32 ∨ m = 32 ∨ (32 < m ∧ m < 48) ∨ (48 ≤ m ∧ m ≤ 57) ∨ (57 < m ∧ m < 65) ∨ (65 ≤ m ∧ m ≤ 90) ∨ (90 < m ∧ m < 97) ∨ (97 ≤ m ∧ m ≤ 122) ∨ 122 < m by omega) with hc | hc | hc | hc | hc | hc | hc | hc | hc
      · have b1 : (m : Int) < 97 := by omega
        have b2 : ¬ (122 : Int) < (m : Int) := by omega
        have b3 : (m : Int) < 65 := by omega
        have b4 : ¬ (90 : Int) < (m : Int) := by omega
        have b5 : (m : Int) < 48 := by omega
        have b6 : ¬ (57 : Int) < (m : Int) := by omega
        have b7 : ((m : Int) != 32) = true := by simp; omega
        clear hc
        go_wp2
        go_ret
        exact ⟨false, rfl, (fun hh => by cases hh), rfl⟩
      · have b1 : (m : Int) < 97 := by omega
        have b2 : ¬ (122 : Int) < (m : Int) := by omega
        have b3 : (m : Int) < 65 := by omega
        have b4 : ¬ (90 : Int) < (m : Int) := by omega
        have b5 : (m : Int) < 48 := by omega
        have b6 : ¬ (57 : Int) < (m : Int) := by omega
        have b7 : ((m : Int) != 32) = false := by simp [hc]
        have hp : plainN m := by unfold plainN; omega
        clear hc
        go_wp2
        go_round
        case rel => exact ⟨i + 1, by omega, by go_num, all_take_succ _ _ i hll HA.out (by rw [e, ← HM.out]; exact hp)⟩
        case measure => simp [intOf]; omega
      · have b1 : (m : Int) < 97 := by omega
        have b2 : ¬ (122 : Int) < (m : Int) := by omega
        have b3 : (m : Int) < 65 := by omega
        have b4 : ¬ (90 : Int) < (m : Int) := by omega
        have b5 : (m : Int) < 48 := by omega
        have b6 : ¬ (57 : Int) < (m : Int) := by omega
        have b7 : ((m : Int) != 32) = true := by simp; omega
        clear hc
        go_wp2
        go_ret
        exact ⟨false, rfl, (fun hh => by cases hh), rfl⟩
      · have b1 : (m : Int) < 97 := by omega
        have b2 : ¬ (122 : Int) < (m : Int) := by omega
        have b3 : (m : Int) < 65 := by omega
        have b4 : ¬ (90 : Int) < (m : Int) := by omega
        have b5 : ¬ (m : Int) < 48 := by omega
        have b6 : ¬ (57 : Int) < (m : Int) := by omega
        have b7 : ((m : Int) != 32) = true := by simp; omega
        have hp : plainN m := by unfold plainN; omega
        clear hc
        go_wp2
        go_round
        case rel => exact ⟨i + 1, by omega, by go_num, all_take_succ _ _ i hll HA.out (by rw [e, ← HM.out]; exact hp)⟩
        case measure => simp [intOf]; omega
      · have b1 : (m : Int) < 97 := by omega
        have b2 : ¬ (122 : Int) < (m : Int) := by omega
        have b3 : (m : Int) < 65 := by omega
        have b4 : ¬ (90 : Int) < (m : Int) := by omega
        have b5 : ¬ (m : Int) < 48 := by omega
        have b6 : (57 : Int) < (m : Int) := by omega
        have b7 : ((m : Int) != 32) = true := by simp; omega
        clear hc
        go_wp2
        go_ret
        exact ⟨false, rfl, (fun hh => by cases hh), rfl⟩
      · have b1 : (m : Int) < 97 := by omega
        have b2 : ¬ (122 : Int) < (m : Int) := by omega
        have b3 : ¬ (m : Int) < 65 := by omega
        have b4 : ¬ (90 : Int) < (m : Int) := by omega
        have b5 : ¬ (m : Int) < 48 := by omega
        have b6 : (57 : Int) < (m : Int) := by omega
        have b7 : ((m : Int) != 32) = true := by simp; omega
        have hp : plainN m := by unfold plainN; omega
        clear hc
        go_wp2
        go_round
        case rel => exact ⟨i + 1, by omega, by go_num, all_take_succ _ _ i hll HA.out (by rw [e, ← HM.out]; exact hp)⟩
        case measure => simp [intOf]; omega
      · have b1 : (m : Int) < 97 := by omega
        have b2 : ¬ (122 : Int) < (m : Int) := by omega
        have b3 : ¬ (m : Int) < 65 := by omega
        have b4 : (90 : Int) < (m : Int) := by omega
        have b5 : ¬ (m : Int) < 48 := by omega
        have b6 : (57 : Int) < (m : Int) := by omega
        have b7 : ((m : Int) != 32) = true := by simp; omega
        clear hc
        go_wp2
        go_ret
        exact ⟨false, rfl, (fun hh => by cases hh), rfl⟩
      · have b1 : ¬ (m : Int) < 97 := by omega
        have b2 : ¬ (122 : Int) < (m : Int) := by omega
        have b3 : ¬ (m : Int) < 65 := by omega
        have b4 : (90 : Int) < (m : Int) := by omega
        have b5 : ¬ (m : Int) < 48 := by omega
        have b6 : (57 : Int) < (m : Int) := by omega
        have b7 : ((m : Int) != 32) = true := by simp; omega
        have hp : plainN m := by unfold plainN; omega
        clear hc
        go_wp2
        go_round
        case rel => exact ⟨i + 1, by omega, by go_num, all_take_succ _ _ i hll HA.out (by rw [e, ← HM.out]; exact hp)⟩
        case measure => simp [intOf]; omega
      · have b1 : ¬ (m : Int) < 97 := by omega
        have b2 : (122 : Int) < (m : Int) := by omega
        have b3 : ¬ (m : Int) < 65 := by omega
        have b4 : (90 : Int) < (m : Int) := by omega
        have b5 : ¬ (m : Int) < 48 := by omega
        have b6 : (57 : Int) < (m : Int) := by omega
        have b7 : ((m : Int) != 32) = true := by simp; omega
        clear hc
        go_wp2
        go_ret
        exact ⟨false, rfl, (fun hh => by cases hh), rfl⟩
    · go_wp2
      go_ret
      refine ⟨true, rfl, fun _ c hc => ?_, rfl⟩
      have := HA.out
      rw [List.take_of_length_le (by simpa using hlt)] at this
      exact this c hc

end Go.Proofs.YtdljobmhnnegiaaDoor

/- spec.Proper (function 21): what is known of a test that it calls proper. -/
namespace Go.Proofs.YtdljobmhnnegiaaDoor
open Go.RowKit

/-- A slice of strings. -/
def SC (w : World) (v : Value) (ss : List (List UInt8)) : Prop :=
  ∃ p cap, v = .slice p ss.length cap ∧ ss.length ≤ cap ∧ ∀ i, (h : i < ss.length) → ∃ g off, p = some ⟨g, off, none⟩ ∧ w.cell? ⟨g, off + i, none⟩ = some (.string (S ss[i]))
theorem SC.below {w w' : World} {v : Value} {ss : List (List UInt8)} (h : SC w v ss) (hb : Below w.heap.size w w') : SC w' v ss := by
  obtain ⟨p, cap, rfl, hc, hel⟩ := h
  refine ⟨p, cap, rfl, hc, fun i hi => ?_⟩
  obtain ⟨g, off, hp, hcell⟩ := hel i hi
  exact ⟨g, off, hp, (hb.cell (World.block_lt_of_cell? w _ hcell)).trans hcell⟩
theorem SC.nil (w : World) : SC w (.slice none 0 0) [] := ⟨none, 0, rfl, Nat.le_refl _, fun i hi => by simp at hi⟩

/-- A plain line that a test printed. -/
structure LineP (l : List UInt8) : Prop where
  plain : ∀ c ∈ l, plainN c.toNat
  ne : l ≠ []
  len : l.length ≤ 100
  first : l.getD 0 0 ≠ 32
/-- A proper test. -/
structure PropF (n : List UInt8) (k : Int) (ls : List (List UInt8)) : Prop where
  lo : 0 ≤ k
  hi : k ≤ 2
  ne : n ≠ []
  len : n.length ≤ 50
  plain : ∀ c ∈ n, plainN c.toNat
  noBlank : ∀ c ∈ n, c ≠ 32
  few : ls.length ≤ 20
  lines : ∀ l ∈ ls, LineP l
def ProperPost (n : List UInt8) (k : Int) (ls : List (List UInt8)) (w : World) (e : Ending) (w' : World) : Prop := ∃ b, e = .returned (.bool b) ∧ (b = true → PropF n k ls) ∧ Below w.heap.size w w'
theorem ProperPost.no {n : List UInt8} {k : Int} {ls : List (List UInt8)} {w w' : World} (hb : Below w.heap.size w w') : ProperPost n k ls w (.returned (.bool false)) w' := ⟨false, rfl, (fun h => by cases h), hb⟩

set_option maxRecDepth 100000 in
set_option maxHeartbeats 4000000 in
theorem proper_any (s : ByteArray) (k : Int) (lv : Value) (ls : List (List UInt8)) (w : World) (hl : SC w lv ls) (hn : s.size ≤ 2147483647) (hls : ls.length ≤ 2147483647) (hlb : ∀ l ∈ ls, l.length ≤ 2147483647) :
    Calls Tryd.prog 21 #[.agg #[.string s, .int .i64 k, lv]] w (ProperPost s.data.toList k ls w) := by
  obtain ⟨p, cap, rfl, hc, hel⟩ := hl
  have HEL := Lib.hid hel
  have HLB := Lib.hid hlb
  obtain ⟨N, hN⟩ : ∃ N, N = ls.length := ⟨_, rfl⟩
  have HN := Lib.hid hN
  rw [← hN] at hls hc ⊢
  have HB : Hid (∀ o, Below w.heap.size w (w.alloc o)) := fun o => (Below.refl _ w).alloc (Nat.le_refl _) o
  obtain ⟨M, hM⟩ : ∃ M, M = s.size := ⟨_, rfl⟩
  have HM : Hid (M = s.data.toList.length) := by show _ = _; rw [hM]; simp
  have HM2 := Lib.hid hM
  have hszI : ((s.size : Nat) : Int) = (M : Int) := by rw [hM]
  clear hel hlb hN
  by_cases k0 : k < 0
  · go_enter Tryd.func21, Tryd.ntmps21
    go_wp2
    go_ret
    exact .no (HB.out _)
  by_cases k2 : (2 : Int) < k
  · go_enter Tryd.func21, Tryd.ntmps21
    go_wp2
    go_ret
    exact .no (HB.out _)
  by_cases hne : s.data.toList = []
  · have e1 : s.toList = [] := by rw [ByteArray.toList_eq]; exact hne
    have HNE := Lib.hid hne
    clear hne
    go_enter Tryd.func21, Tryd.ntmps21
    go_wp2
    go_ret
    exact .no (HB.out _)
  have hne1 : ¬ s.toList = [] := by rw [ByteArray.toList_eq]; exact hne
  have hne2 : s.toList.isEmpty = false := by cases h : s.toList with | nil => exact absurd h hne1 | cons a b => rfl
  have HNE := Lib.hid hne
  have HK := Lib.hid (And.intro k0 k2)
  clear hne
  by_cases h50 : (50 : Int) < (M : Int)
  · go_enter Tryd.func21, Tryd.ntmps21
    go_wp2
    go_ret
    exact .no (HB.out _)
  have HP : Hid (∀ w, Calls Tryd.prog 36 #[.string s] w (PlainPost s w)) := fun w => plainS_any s w (by omega)
  go_enter Tryd.func21, Tryd.ntmps21
  go_wp2_with fail
  refine (HP.out _).mono ?_
  rintro e w' ⟨b, rfl, hb, rfl⟩
  have HPL := Lib.hid hb
  clear hb
  cases b with
  | false =>
    dsimp only
    go_wp2_with fail
    go_ret
    exact .no (HB.out _)
  | true =>
  by_cases h20 : (20 : Int) < (N : Int)
  · dsimp only
    go_wp2_with fail
    go_ret
    exact .no (HB.out _)
  dsimp only
  go_wp2_with fail
  go_loop [40] (fun v40 => ∃ i : Nat, i ≤ M ∧ v40 = .int .i64 i ∧ Hid (∀ c ∈ s.data.toList.take i, c ≠ 32)) (fun i => M - (intOf i).toNat)
  case atStart => exact ⟨0, Nat.zero_le _, rfl, fun c hc => by simp at hc⟩
  case round =>
    obtain ⟨i, hi, rfl, HA⟩ := hrel
    by_cases hltM : i < M
    · have hlt : i < s.size := by omega
      have hll : i < s.data.toList.length := by simpa using hlt
      have e : s.data.toList[i] = s[i]'hlt := rfl
      obtain ⟨m, hm⟩ : ∃ m, m = (s[i]'hlt).toNat := ⟨_, rfl⟩
      have hms : ((s[i]'hlt).toNat : Int) = (m : Int) := by rw [hm]
      have HMM := Lib.hid hm
      clear hm
      by_cases h32 : m = 32
      · have hb : ((m : Int) == 32) = true := by simp [h32]
        go_wp2_with fail
        go_ret
        exact .no (HB.out _)
      · have hb : ((m : Int) == 32) = false := by simp; omega
        go_wp2_with fail
        go_round
        case rel => exact ⟨i + 1, by omega, by go_num, all_take_succ _ _ i hll HA.out (by rw [e]; intro hh; exact h32 (by rw [HMM.out, hh]; rfl))⟩
        case measure => simp [intOf]; omega
    · have HNB : Hid (∀ c ∈ s.data.toList, c ≠ 32) := by
        have := HA.out
        rwa [List.take_of_length_le (by have := HM.out; omega)] at this
      go_wp2_with fail
      go_loop [52] (fun v52 => ∃ i : Nat, i ≤ N ∧ v52 = .int .i64 i ∧ Hid (∀ l ∈ ls.take i, LineP l)) (fun i => N - (intOf i).toNat)
      case atStart => exact ⟨0, Nat.zero_le _, rfl, fun c hc => by simp at hc⟩
      case round =>
        obtain ⟨j, hj, rfl, HL⟩ := hrel
        by_cases hltN : j < N
        · have hjl : j < ls.length := by have := HN.out; omega
          obtain ⟨g, off, hp, hcell⟩ := HEL.out j hjl
          subst hp
          have hgl : g < w.heap.size := World.block_lt_of_cell? w _ hcell
          have hcell' : ∀ o, (w.alloc o).cell? ⟨g, off + j, none⟩ = some (.string (S ls[j])) := fun o => ((HB.out o).cell (p := ⟨g, off + j, none⟩) hgl).trans hcell
          obtain ⟨x, hx⟩ : ∃ x, x = S ls[j] := ⟨_, rfl⟩
          have hxd : x.data.toList = ls[j] := by rw [hx]; try simp [S]
          have hxs : x.size = ls[j].length := by rw [← hxd]; simp
          rw [← hx] at hcell'
          have HX := Lib.hid hxd
          have HXS := Lib.hid hxs
          have HPx : Hid (∀ w, Calls Tryd.prog 36 #[.string x] w (PlainPost x w)) := fun w => plainS_any x w (by have := HLB.out _ (List.getElem_mem hjl); omega)
          clear hcell hx hxd hxs
          go_wp2_with fail
          refine (HPx.out _).mono ?_
          rintro e w' ⟨b, rfl, hb, rfl⟩
          have HPLx := Lib.hid hb
          clear hb
          cases b with
          | false =>
            dsimp only
            go_wp2_with fail
            go_ret
            exact .no (HB.out _)
          | true =>
          by_cases hxe : x.data.toList = []
          · have e1 : x.toList = [] := by rw [ByteArray.toList_eq]; exact hxe
            have HXE := Lib.hid hxe
            clear hxe
            dsimp only
            go_wp2_with fail
            go_ret
            exact .no (HB.out _)
          have hxe1 : ¬ x.toList = [] := by rw [ByteArray.toList_eq]; exact hxe
          have hxe2 : x.toList.isEmpty = false := by cases h : x.toList with | nil => exact absurd h hxe1 | cons a b => rfl
          have hx0 : 0 < x.size := by
            rcases Nat.eq_zero_or_pos x.size with h | h
            · exact absurd (List.eq_nil_of_length_eq_zero (by simpa using h)) hxe
            · exact h
          have HXE := Lib.hid hxe
          clear hxe
          by_cases h100 : (100 : Int) < (x.size : Int)
          · dsimp only
            go_wp2_with fail
            go_ret
            exact .no (HB.out _)
          obtain ⟨m, hm⟩ : ∃ m, m = (x[0]'hx0).toNat := ⟨_, rfl⟩
          have hms : ((x[0]'hx0).toNat : Int) = (m : Int) := by rw [hm]
          have HMM := Lib.hid hm
          clear hm
          by_cases h32 : m = 32
          · have hb : ((m : Int) == 32) = true := by simp [h32]
            dsimp only
            go_wp2_with fail
            go_ret
            exact .no (HB.out _)
          · have hb : ((m : Int) == 32) = false := by simp; omega
            dsimp only
            go_wp2_with fail
            go_round
            case rel =>
              refine ⟨j + 1, by omega, by go_num, ?_⟩
              intro l hl
              rw [List.take_succ_eq_append_getElem hjl] at hl
              rcases List.mem_append.1 hl with hl | hl
              · exact HL.out l hl
              · rw [List.mem_singleton] at hl
                subst hl
                refine ⟨fun c hc => HPLx.out rfl c (by rw [HX.out]; exact hc), by rw [← HX.out]; exact HXE.out, by have := HXS.out; omega, ?_⟩
                rw [← HX.out]
                intro hh
                apply h32
                have hx0' : 0 < x.data.toList.length := by simpa using hx0
                rw [List.getD_eq_getElem?_getD, List.getElem?_eq_getElem hx0'] at hh
                have : (x[0]'hx0) = 32 := hh
                rw [HMM.out, this]; rfl
            case measure => simp [intOf]; omega
        · go_wp2_with fail
          go_ret
          refine ⟨true, rfl, fun _ => ⟨by omega, by omega, HNE.out, by have := HM.out; omega, HPL.out (by trivial), HNB.out, by have := HN.out; omega, ?_⟩, HB.out _⟩
          have := HL.out
          rwa [List.take_of_length_le (by have := HN.out; omega)] at this

end Go.Proofs.YtdljobmhnnegiaaDoor

/- laws.tests (function 28): the tests of the reference, made of names, kinds and lines; spec.Failed (29), laws.zzFits1, zzFits2 (27, 32). -/
namespace Go.Proofs.YtdljobmhnnegiaaDoor
open Go.RowKit

/-- A slice of slices of strings. -/
def SSC (w : World) (v : Value) (lss : List (List (List UInt8))) : Prop :=
  ∃ p cap, v = .slice p lss.length cap ∧ lss.length ≤ cap ∧ ∀ i, (h : i < lss.length) → ∃ g off lv, p = some ⟨g, off, none⟩ ∧ w.cell? ⟨g, off + i, none⟩ = some lv ∧ SC w lv lss[i]
theorem SSC.below {w w' : World} {v : Value} {ss : List (List (List UInt8))} (h : SSC w v ss) (hb : Below w.heap.size w w') : SSC w' v ss := by
  obtain ⟨p, cap, rfl, hc, hel⟩ := h
  refine ⟨p, cap, rfl, hc, fun i hi => ?_⟩
  obtain ⟨g, off, lv, hp, hcell, hs⟩ := hel i hi
  exact ⟨g, off, lv, hp, (hb.cell (World.block_lt_of_cell? w _ hcell)).trans hcell, hs.below hb⟩
theorem SSC.nil (w : World) : SSC w (.slice none 0 0) [] := ⟨none, 0, rfl, Nat.le_refl _, fun i hi => by simp at hi⟩

/-- Tests in memory. -/
structure TestAt (w : World) (g i : Nat) (t : TT) : Prop where
  c0 : w.cell? ⟨g, i * 3, none⟩ = some (.string (S t.name))
  c1 : w.cell? ⟨g, i * 3 + 1, none⟩ = some (.int .i64 t.kind)
  c2 : ∃ lv, w.cell? ⟨g, i * 3 + 2, none⟩ = some lv ∧ SC w lv t.lines
def TSC (w : World) (v : Value) (ts : List TT) : Prop :=
  ∃ p cap, v = .slice p ts.length cap ∧ ts.length ≤ cap ∧ ∀ i, (h : i < ts.length) → ∃ g, p = some ⟨g, 0, none⟩ ∧ TestAt w g i ts[i]
theorem TestAt.below {w w' : World} {g i : Nat} {t : TT} (h : TestAt w g i t) (hb : Below w.heap.size w w') : TestAt w' g i t := by
  obtain ⟨h0, h1, lv, h2, h3⟩ := h
  exact ⟨cellB hb h0, cellB hb h1, lv, cellB hb h2, h3.below hb⟩
theorem TSC.below {w w' : World} {v : Value} {ts : List TT} (h : TSC w v ts) (hb : Below w.heap.size w w') : TSC w' v ts := by
  obtain ⟨p, cap, rfl, hc, hel⟩ := h
  refine ⟨p, cap, rfl, hc, fun i hi => ?_⟩
  obtain ⟨g, hp, hat⟩ := hel i hi
  exact ⟨g, hp, hat.below hb⟩

theorem info36 : (Tryd.prog.info? 36).map (fun i => (i.zero, i.size, i.bytes)) = some (some (.agg #[.string ⟨#[]⟩, .int .i64 0, .slice none 0 0]), 3, 48) := by kernel_rfl

/-- Tests that are being made: in a row of their own. -/
structure TM (H : Nat) (w : World) (v : Value) (xs : List Value) (ts : List TT) : Prop where
  own : w.ownsRow H 36 3 v ts.length xs
  el : ∀ i, (h : i < ts.length) → xs[3 * i]? = some (.string (S ts[i].name)) ∧ xs[3 * i + 1]? = some (.int .i64 ts[i].kind) ∧ ∃ lv, xs[3 * i + 2]? = some lv ∧ ∀ w', Below H w w' → SC w' lv ts[i].lines
theorem TM.nil (H : Nat) (w : World) : TM H w (.slice none 0 0) [] [] := ⟨⟨rfl, .inl ⟨rfl, rfl⟩⟩, fun i hi => by simp at hi⟩
theorem TM.same {H : Nat} {w w2 : World} {v : Value} {xs : List Value} {ts : List TT} (h : TM H w v xs ts) (hb : Below H w w2) (he : ∀ k, v.ownBlock = some k → w2.heap[k]? = w.heap[k]?) : TM H w2 v xs ts := by
  refine ⟨ownsRow_same h.own he, fun i hi => ?_⟩
  obtain ⟨h1, h2, lv, h3, h4⟩ := h.el i hi
  exact ⟨h1, h2, lv, h3, fun w' hw => h4 w' (hb.trans hw)⟩
theorem TM.tsc {H : Nat} {w : World} {v : Value} {xs : List Value} {ts : List TT} (h : TM H w v xs ts) : TSC w v ts := by
  rcases h.own.2 with ⟨rfl, h0⟩ | ⟨g, cap, cur, rfl, hg, hh, hc, _, _, ht⟩
  · exact ⟨none, 0, by rw [h0], by omega, fun i hi => by omega⟩
  · refine ⟨_, cap, rfl, hc, fun i hi => ⟨g, rfl, ?_⟩⟩
    obtain ⟨h1, h2, lv, h3, h4⟩ := h.el i hi
    have hcur : ∀ j, j < ts.length * 3 → w.cell? ⟨g, j, none⟩ = xs[j]? := fun j hj => by
      simp only [World.cell?, hh]
      rw [← ht, List.getElem?_take, if_pos hj]; simp
    refine ⟨?_, ?_, lv, ?_, h4 w (Below.refl _ _)⟩
    · rw [hcur _ (by omega), show i * 3 = 3 * i by omega]; exact h1
    · rw [hcur _ (by omega), show i * 3 + 1 = 3 * i + 1 by omega]; exact h2
    · rw [hcur _ (by omega), show i * 3 + 2 = 3 * i + 2 by omega]; exact h3
theorem TM.push {H : Nat} {w w3 : World} {v v3 : Value} {xs : List Value} {ts : List TT} (h : TM H w v xs ts) (t : TT) (lv : Value) (hl : ∀ w', Below H w3 w' → SC w' lv t.lines) (hb : Below H w w3)
    (ho : w3.ownsRow H 36 3 v3 (ts.length + 1) (xs ++ [.string (S t.name), .int .i64 t.kind, lv])) : TM H w3 v3 (xs ++ [.string (S t.name), .int .i64 t.kind, lv]) (ts ++ [t]) := by
  have hxl : xs.length = ts.length * 3 := h.own.1
  refine ⟨by rw [List.length_append]; exact ho, fun i hi => ?_⟩
  rcases Nat.lt_or_ge i ts.length with hlt | hge
  · obtain ⟨h1, h2, lv', h3, h4⟩ := h.el i hlt
    have e : (ts ++ [t])[i] = ts[i] := List.getElem_append_left hlt
    rw [e]
    refine ⟨by rw [List.getElem?_append_left (by omega)]; exact h1, by rw [List.getElem?_append_left (by omega)]; exact h2, lv', by rw [List.getElem?_append_left (by omega)]; exact h3, fun w' hb' => h4 w' (hb.trans hb')⟩
  · have hi' : i = ts.length := by simp at hi; omega
    subst hi'
    have e : (ts ++ [t])[ts.length] = t := by simp
    rw [e]
    refine ⟨?_, ?_, lv, ?_, hl⟩
    · rw [List.getElem?_append_right (by omega), show 3 * ts.length - xs.length = 0 by omega]; rfl
    · rw [List.getElem?_append_right (by omega), show 3 * ts.length + 1 - xs.length = 1 by omega]; rfl
    · rw [List.getElem?_append_right (by omega), show 3 * ts.length + 2 - xs.length = 2 by omega]; rfl

theorem ProperT.of {n : List UInt8} {k : Int} {ls : List (List UInt8)} (h : PropF n k ls) : ProperT ⟨n, k.toNat, ls⟩ := by
  refine ⟨?_, fun c hc => ?_, h.ne, h.len, fun l hl => ?_, h.few⟩
  · have := h.hi; have := h.lo; show k.toNat ≤ 2; omega
  · have h1 := h.plain c hc
    have h2 := h.noBlank c hc
    have h3 : c.toNat ≠ 32 := fun hh => h2 (UInt8.toNat_inj.1 hh)
    unfold plainN at h1
    omega
  · have h1 := h.lines l hl
    refine ⟨fun c hc => ?_, h1.ne, h1.len⟩
    have := h1.plain c hc
    unfold plainN at this
    omega

def TestsPost (w : World) (e : Ending) (w' : World) : Prop := ∃ v b, e = .returned (.tuple #[v, .bool b]) ∧ Below w.heap.size w w' ∧ (b = true → ∃ ts, TSC w' v ts ∧ ts.length ≤ 20 ∧ ∀ t ∈ ts, ProperT t)
theorem TestsPost.no {w w' : World} {v : Value} (hb : Below w.heap.size w w') : TestsPost w (.returned (.tuple #[v, .bool false])) w' := ⟨v, false, rfl, hb, (fun h => by cases h)⟩
end Go.Proofs.YtdljobmhnnegiaaDoor

/- laws.tests (function 28): the walk. -/
namespace Go.Proofs.YtdljobmhnnegiaaDoor
open Go.RowKit

set_option maxRecDepth 100000 in
set_option maxHeartbeats 40000000 in
theorem tests_any (nv kv lv : Value) (ns : List (List UInt8)) (ks : List Int) (ls : List (List (List UInt8))) (w : World) (hn : SC w nv ns) (hk : IC w kv ks) (hl : SSC w lv ls)
    (hn1 : ns.length ≤ 2147483647) (hn2 : ∀ n ∈ ns, n.length ≤ 2147483647) (_hk1 : ks.length ≤ 2147483647) (_hl1 : ls.length ≤ 2147483647) (hl2 : ∀ l ∈ ls, l.length ≤ 2147483647 ∧ ∀ x ∈ l, x.length ≤ 2147483647) :
    Calls Tryd.prog 28 #[nv, kv, lv] w (TestsPost w) := by
  obtain ⟨pn, cn, rfl, hcn, hen⟩ := hn
  obtain ⟨pk, ck, rfl, hck, hek⟩ := hk
  obtain ⟨pl, cl, rfl, hcl, hel⟩ := hl
  have HEN := Lib.hid hen
  have HEK := Lib.hid hek
  have HEL := Lib.hid hel
  have HN2 := Lib.hid hn2
  have HL2 := Lib.hid hl2
  obtain ⟨N, hN⟩ : ∃ N, N = ns.length := ⟨_, rfl⟩
  obtain ⟨K, hK⟩ : ∃ K, K = ks.length := ⟨_, rfl⟩
  obtain ⟨L, hL⟩ : ∃ L, L = ls.length := ⟨_, rfl⟩
  have HN := Lib.hid hN
  have HK := Lib.hid hK
  have HL := Lib.hid hL
  rw [← hN] at hcn hn1 ⊢
  rw [← hK] at hck _hk1 ⊢
  rw [← hL] at hcl _hl1 ⊢
  clear hen hek hel hn2 hl2 hN hK hL
  obtain ⟨H, hH⟩ : ∃ H, H = w.heap.size := ⟨_, rfl⟩
  have HHH := Lib.hid hH
  clear hH
  obtain ⟨i36, hi, hz0, hz1, hz2⟩ := info_parts info36
  go_enter Tryd.func28, Tryd.ntmps28
  go_wp2_with fail
  go_loopw [8, 14] (fun v8 v14 wr => ∃ (i : Nat) (vo : Value) (xs : List Value) (ts : List TT), v14 = .int .i64 i ∧ vo = v8 ∧ i ≤ N ∧ Hid (ts.length = i ∧ (0 < i → N ≤ 20)) ∧ Hid (Below H w wr) ∧ Hid (TM H wr vo xs ts) ∧ Hid (∀ t ∈ ts, ProperT t)) (fun _ v14 _ => N - (intOf v14).toNat)
  case atStart => exact ⟨0, _, [], [], rfl, rfl, Nat.zero_le _, ⟨rfl, fun h => absurd h (Nat.lt_irrefl _)⟩, Below.refl _ _, TM.nil _ _, fun t ht => by simp at ht⟩
  case round =>
    obtain ⟨i, vo, xs, ts, rfl, rfl, hin, HI, HBr, HTM, HPT⟩ := hrel
    by_cases hlt : i < N
    · have hin' : i < ns.length := by have := HN.out; omega
      obtain ⟨gn, on, hpn, hcelln⟩ := HEN.out i hin'
      subst hpn
      have hcn' := (HBr.out.cell (p := ⟨gn, on + i, none⟩) (by rw [HHH.out]; exact World.block_lt_of_cell? w _ hcelln)).trans hcelln
      obtain ⟨x, hx⟩ : ∃ x, x = ns[i] := ⟨_, rfl⟩
      have hxl : x.length ≤ 2147483647 := by rw [hx]; exact HN2.out _ (List.getElem_mem hin')
      rw [← hx] at hcn'
      clear hcelln hx
      have hH : H ≤ wr.heap.size := by rw [HHH.out]; exact HBr.out.size
      have HSZ : Hid ((S x).size = x.length) := S_size x
      have hsz : (S x).size ≤ 2147483647 := by rw [HSZ.out]; exact hxl
      have hd : (S x).data.toList = x := by simp
      by_cases hik0 : i < K
      · by_cases hil0 : i < L
        · have hik : i < ks.length := by have := HK.out; omega
          obtain ⟨gk, ok, hpk, hcellk⟩ := HEK.out i hik
          subst hpk
          have hck' : ∀ o, (wr.alloc o).cell? ⟨gk, ok + i, none⟩ = some (.int .i64 ks[i]) := fun o => ((HBr.out.alloc hH o).cell (p := ⟨gk, ok + i, none⟩) (by rw [HHH.out]; exact World.block_lt_of_cell? w _ hcellk)).trans hcellk
          obtain ⟨k, hk⟩ : ∃ k, k = ks[i] := ⟨_, rfl⟩
          rw [← hk] at hck'
          clear hcellk hk
          have hil : i < ls.length := by have := HL.out; omega
          obtain ⟨gl, ol, lv, hpl, hcelll, hsc⟩ := HEL.out i hil
          subst hpl
          obtain ⟨lx, hlx⟩ : ∃ lx, lx = ls[i] := ⟨_, rfl⟩
          have hlb := HL2.out _ (List.getElem_mem hil)
          rw [← hlx] at hsc hlb
          have HLB := Lib.hid hlb
          have HSC := Lib.hid hsc
          obtain ⟨p2, c2, rfl, _, _⟩ := hsc
          obtain ⟨n2, hn2⟩ : ∃ n2, n2 = lx.length := ⟨_, rfl⟩
          rw [← hn2] at hcelll HSC
          have hcl' : ∀ o, (wr.alloc o).cell? ⟨gl, ol + i, none⟩ = some (.slice p2 n2 c2) := fun o => ((HBr.out.alloc hH o).cell (p := ⟨gl, ol + i, none⟩) (by rw [HHH.out]; exact World.block_lt_of_cell? w _ hcelll)).trans hcelll
          clear hcelll hlx hlb hn2
          have HP : Hid (∀ w7, Below H w w7 → Calls Tryd.prog 21 #[.agg #[.string (S x), .int .i64 k, (.slice p2 n2 c2)]] w7 (ProperPost x k lx w7)) := fun w7 hb => by
            have := proper_any (S x) k (.slice p2 n2 c2) lx w7 (HSC.out.below (by rw [← HHH.out]; exact hb)) hsz HLB.out.1 HLB.out.2
            rwa [hd] at this
          go_wp2_with fail
          refine (HP.out _ ?_).mono ?_
          · first | exact HBr.out.alloc hH _ | exact (HBr.out.alloc hH _).setCell hH _ | exact ((HBr.out.alloc hH _).setCell hH _).setCell hH _ | exact (((HBr.out.alloc hH _).setCell hH _).setCell hH _).setCell hH _
          rintro e w8 ⟨b, rfl, hb, hb8⟩
          have hlt8 : wr.heap.size < w8.heap.size := Nat.lt_of_lt_of_le (by rw [size_alloc]; exact Nat.lt_succ_self _) hb8.size
          have HBL : Hid (Below H w w8) := (HBr.out.alloc hH _).trans (hb8.mono (by rw [size_alloc]; omega))
          have HB2 : Hid (Below H wr w8) := ((Below.refl H wr).alloc hH _).trans (hb8.mono (by rw [size_alloc]; omega))
          have hblk : w8.heap[wr.heap.size]? = some (.cells #[.string (S x), .int .i64 k, (.slice p2 n2 c2)] 36 (0, 0)) := (hb8.block _ (by rw [size_alloc]; exact Nat.lt_succ_self _)).trans (heap_alloc_new _ _)
          have d0 : w8.cell? ⟨wr.heap.size, 0, none⟩ = some (.string (S x)) := by simp only [World.cell?, hblk]; rfl
          have d1 : w8.cell? ⟨wr.heap.size, 1, none⟩ = some (.int .i64 k) := by simp only [World.cell?, hblk]; rfl
          have d2 : w8.cell? ⟨wr.heap.size, 2, none⟩ = some (.slice p2 n2 c2) := by simp only [World.cell?, hblk]; rfl
          have HTM8 : Hid (TM H w8 vo xs ts) := HTM.out.same HB2.out (fun q hq => (hb8.block q (by rw [size_alloc]; have := (HTM.out.own.lt q hq).2; omega)).trans (Below.heap_alloc _ _ _ (HTM.out.own.lt q hq).2))
          have HPF := Lib.hid hb
          have hH8 : H ≤ w8.heap.size := by omega
          clear hb hb8 hblk
          cases b with
          | false =>
            dsimp only
            go_wp2_with fail
            refine bodyPost_ret (results_tmp2 rfl _ _ _) rfl ?_
            exact .no (by rw [← HHH.out]; exact HBL.out)
          | true =>
          by_cases h20 : (20 : Int) < (N : Int)
          · dsimp only
            go_wp2_with fail
            refine bodyPost_ret (results_tmp2 rfl _ _ _) rfl ?_
            exact .no (by rw [← HHH.out]; exact HBL.out)
          have hx50 : ¬ (50 : Int) < ((S x).size : Int) := by have h1 := (HPF.out (by trivial)).len; have h2 := HSZ.out; omega
          obtain ⟨kn, hkn⟩ : ∃ kn : Nat, k = (kn : Int) := ⟨k.toNat, by have h1 := (HPF.out (by trivial)).lo; omega⟩
          subst hkn
          have HPR : Hid (ProperT ⟨x, kn, lx⟩) := ProperT.of (HPF.out (by trivial))
          have hil8 : ts.length ≤ 20 := by have h1 := HI.out; omega
          dsimp only
          go_wp2_with (at_builtin; refine wpList_append_lies _ rfl (.tmp 52) (.tmp 54) 48 rfl H 36 i36 _ 3 48 Tryd.underlying48 hi hz0 hz1 hz2 rfl (by decide) _ ts.length xs rfl (HTM8.out.own.alloc _) ⟨w8.heap.size, 0, none⟩ 1 1 [.string (S x), .int .i64 (kn : Int), (.slice p2 n2 c2)] rfl rfl (World.news_of_block (cs := #[.string (S x), .int .i64 (kn : Int), (.slice p2 n2 c2)]) (heap_alloc_new _ _)) (by intro u hu; simp at hu; rcases hu with rfl | rfl | rfl <;> rfl) (by decide) (by unfold maxLen; omega) (by omega) (by rw [size_alloc]; omega) _ rfl ?_; intro g' c' w9 hown hgrow hat hlt9)
          have hg8 : Below H w8 w9 := ((Below.refl H w8).alloc hH8 _).grown hgrow (by rw [size_alloc]; omega) (fun q hq => (HTM8.out.own.lt q hq).1)
          have HG8 := Lib.hid hg8
          have HOW := Lib.hid hown
          clear hg8 hown hgrow hat
          go_roundw
          case rel =>
            refine ⟨i + 1, _, xs ++ [.string (S x), .int .i64 (kn : Int), (.slice p2 n2 c2)], ts ++ [⟨x, kn, lx⟩], by go_num, rfl, by omega, ⟨by rw [List.length_append, HI.out.1]; rfl, fun _ => by omega⟩, HBL.out.trans HG8.out, ?_, fun t ht => ?_⟩
            · exact HTM8.out.push ⟨x, kn, lx⟩ (.slice p2 n2 c2) (fun w' hb' => HSC.out.below (by rw [← HHH.out]; exact (HBL.out.trans HG8.out).trans hb')) HG8.out HOW.out
            · rcases List.mem_append.1 ht with ht | ht
              · exact HPT.out t ht
              · rw [List.mem_singleton] at ht; subst ht; exact HPR.out
          case measure => simp [intOf]; omega
        · have hik : i < ks.length := by have := HK.out; omega
          obtain ⟨gk, ok, hpk, hcellk⟩ := HEK.out i hik
          subst hpk
          have hck' : ∀ o, (wr.alloc o).cell? ⟨gk, ok + i, none⟩ = some (.int .i64 ks[i]) := fun o => ((HBr.out.alloc hH o).cell (p := ⟨gk, ok + i, none⟩) (by rw [HHH.out]; exact World.block_lt_of_cell? w _ hcellk)).trans hcellk
          obtain ⟨k, hk⟩ : ∃ k, k = ks[i] := ⟨_, rfl⟩
          rw [← hk] at hck'
          clear hcellk hk
          have HLB : Hid (([] : List (List UInt8)).length ≤ 2147483647 ∧ ∀ x ∈ ([] : List (List UInt8)), x.length ≤ 2147483647) := ⟨by simp, fun x hx => by simp at hx⟩
          have HSC : Hid (SC w (.slice none 0 0) []) := SC.nil w
          have HP : Hid (∀ w7, Below H w w7 → Calls Tryd.prog 21 #[.agg #[.string (S x), .int .i64 k, (.slice none 0 0)]] w7 (ProperPost x k [] w7)) := fun w7 hb => by
            have := proper_any (S x) k (.slice none 0 0) [] w7 (HSC.out.below (by rw [← HHH.out]; exact hb)) hsz HLB.out.1 HLB.out.2
            rwa [hd] at this
          go_wp2_with fail
          refine (HP.out _ ?_).mono ?_
          · first | exact HBr.out.alloc hH _ | exact (HBr.out.alloc hH _).setCell hH _ | exact ((HBr.out.alloc hH _).setCell hH _).setCell hH _ | exact (((HBr.out.alloc hH _).setCell hH _).setCell hH _).setCell hH _
          rintro e w8 ⟨b, rfl, hb, hb8⟩
          have hlt8 : wr.heap.size < w8.heap.size := Nat.lt_of_lt_of_le (by rw [size_alloc]; exact Nat.lt_succ_self _) hb8.size
          have HBL : Hid (Below H w w8) := (HBr.out.alloc hH _).trans (hb8.mono (by rw [size_alloc]; omega))
          have HB2 : Hid (Below H wr w8) := ((Below.refl H wr).alloc hH _).trans (hb8.mono (by rw [size_alloc]; omega))
          have hblk : w8.heap[wr.heap.size]? = some (.cells #[.string (S x), .int .i64 k, (.slice none 0 0)] 36 (0, 0)) := (hb8.block _ (by rw [size_alloc]; exact Nat.lt_succ_self _)).trans (heap_alloc_new _ _)
          have d0 : w8.cell? ⟨wr.heap.size, 0, none⟩ = some (.string (S x)) := by simp only [World.cell?, hblk]; rfl
          have d1 : w8.cell? ⟨wr.heap.size, 1, none⟩ = some (.int .i64 k) := by simp only [World.cell?, hblk]; rfl
          have d2 : w8.cell? ⟨wr.heap.size, 2, none⟩ = some (.slice none 0 0) := by simp only [World.cell?, hblk]; rfl
          have HTM8 : Hid (TM H w8 vo xs ts) := HTM.out.same HB2.out (fun q hq => (hb8.block q (by rw [size_alloc]; have := (HTM.out.own.lt q hq).2; omega)).trans (Below.heap_alloc _ _ _ (HTM.out.own.lt q hq).2))
          have HPF := Lib.hid hb
          have hH8 : H ≤ w8.heap.size := by omega
          clear hb hb8 hblk
          cases b with
          | false =>
            dsimp only
            go_wp2_with fail
            refine bodyPost_ret (results_tmp2 rfl _ _ _) rfl ?_
            exact .no (by rw [← HHH.out]; exact HBL.out)
          | true =>
          by_cases h20 : (20 : Int) < (N : Int)
          · dsimp only
            go_wp2_with fail
            refine bodyPost_ret (results_tmp2 rfl _ _ _) rfl ?_
            exact .no (by rw [← HHH.out]; exact HBL.out)
          have hx50 : ¬ (50 : Int) < ((S x).size : Int) := by have h1 := (HPF.out (by trivial)).len; have h2 := HSZ.out; omega
          obtain ⟨kn, hkn⟩ : ∃ kn : Nat, k = (kn : Int) := ⟨k.toNat, by have h1 := (HPF.out (by trivial)).lo; omega⟩
          subst hkn
          have HPR : Hid (ProperT ⟨x, kn, []⟩) := ProperT.of (HPF.out (by trivial))
          have hil8 : ts.length ≤ 20 := by have h1 := HI.out; omega
          dsimp only
          go_wp2_with (at_builtin; refine wpList_append_lies _ rfl (.tmp 52) (.tmp 54) 48 rfl H 36 i36 _ 3 48 Tryd.underlying48 hi hz0 hz1 hz2 rfl (by decide) _ ts.length xs rfl (HTM8.out.own.alloc _) ⟨w8.heap.size, 0, none⟩ 1 1 [.string (S x), .int .i64 (kn : Int), (.slice none 0 0)] rfl rfl (World.news_of_block (cs := #[.string (S x), .int .i64 (kn : Int), (.slice none 0 0)]) (heap_alloc_new _ _)) (by intro u hu; simp at hu; rcases hu with rfl | rfl | rfl <;> rfl) (by decide) (by unfold maxLen; omega) (by omega) (by rw [size_alloc]; omega) _ rfl ?_; intro g' c' w9 hown hgrow hat hlt9)
          have hg8 : Below H w8 w9 := ((Below.refl H w8).alloc hH8 _).grown hgrow (by rw [size_alloc]; omega) (fun q hq => (HTM8.out.own.lt q hq).1)
          have HG8 := Lib.hid hg8
          have HOW := Lib.hid hown
          clear hg8 hown hgrow hat
          go_roundw
          case rel =>
            refine ⟨i + 1, _, xs ++ [.string (S x), .int .i64 (kn : Int), (.slice none 0 0)], ts ++ [⟨x, kn, []⟩], by go_num, rfl, by omega, ⟨by rw [List.length_append, HI.out.1]; rfl, fun _ => by omega⟩, HBL.out.trans HG8.out, ?_, fun t ht => ?_⟩
            · exact HTM8.out.push ⟨x, kn, []⟩ (.slice none 0 0) (fun w' hb' => HSC.out.below (by rw [← HHH.out]; exact (HBL.out.trans HG8.out).trans hb')) HG8.out HOW.out
            · rcases List.mem_append.1 ht with ht | ht
              · exact HPT.out t ht
              · rw [List.mem_singleton] at ht; subst ht; exact HPR.out
          case measure => simp [intOf]; omega
      · by_cases hil0 : i < L
        · have hil : i < ls.length := by have := HL.out; omega
          obtain ⟨gl, ol, lv, hpl, hcelll, hsc⟩ := HEL.out i hil
          subst hpl
          obtain ⟨lx, hlx⟩ : ∃ lx, lx = ls[i] := ⟨_, rfl⟩
          have hlb := HL2.out _ (List.getElem_mem hil)
          rw [← hlx] at hsc hlb
          have HLB := Lib.hid hlb
          have HSC := Lib.hid hsc
          obtain ⟨p2, c2, rfl, _, _⟩ := hsc
          obtain ⟨n2, hn2⟩ : ∃ n2, n2 = lx.length := ⟨_, rfl⟩
          rw [← hn2] at hcelll HSC
          have hcl' : ∀ o, (wr.alloc o).cell? ⟨gl, ol + i, none⟩ = some (.slice p2 n2 c2) := fun o => ((HBr.out.alloc hH o).cell (p := ⟨gl, ol + i, none⟩) (by rw [HHH.out]; exact World.block_lt_of_cell? w _ hcelll)).trans hcelll
          clear hcelll hlx hlb hn2
          have HP : Hid (∀ w7, Below H w w7 → Calls Tryd.prog 21 #[.agg #[.string (S x), .int .i64 0, (.slice p2 n2 c2)]] w7 (ProperPost x 0 lx w7)) := fun w7 hb => by
            have := proper_any (S x) 0 (.slice p2 n2 c2) lx w7 (HSC.out.below (by rw [← HHH.out]; exact hb)) hsz HLB.out.1 HLB.out.2
            rwa [hd] at this
          go_wp2_with fail
          refine (HP.out _ ?_).mono ?_
          · first | exact HBr.out.alloc hH _ | exact (HBr.out.alloc hH _).setCell hH _ | exact ((HBr.out.alloc hH _).setCell hH _).setCell hH _ | exact (((HBr.out.alloc hH _).setCell hH _).setCell hH _).setCell hH _
          rintro e w8 ⟨b, rfl, hb, hb8⟩
          have hlt8 : wr.heap.size < w8.heap.size := Nat.lt_of_lt_of_le (by rw [size_alloc]; exact Nat.lt_succ_self _) hb8.size
          have HBL : Hid (Below H w w8) := (HBr.out.alloc hH _).trans (hb8.mono (by rw [size_alloc]; omega))
          have HB2 : Hid (Below H wr w8) := ((Below.refl H wr).alloc hH _).trans (hb8.mono (by rw [size_alloc]; omega))
          have hblk : w8.heap[wr.heap.size]? = some (.cells #[.string (S x), .int .i64 0, (.slice p2 n2 c2)] 36 (0, 0)) := (hb8.block _ (by rw [size_alloc]; exact Nat.lt_succ_self _)).trans (heap_alloc_new _ _)
          have d0 : w8.cell? ⟨wr.heap.size, 0, none⟩ = some (.string (S x)) := by simp only [World.cell?, hblk]; rfl
          have d1 : w8.cell? ⟨wr.heap.size, 1, none⟩ = some (.int .i64 0) := by simp only [World.cell?, hblk]; rfl
          have d2 : w8.cell? ⟨wr.heap.size, 2, none⟩ = some (.slice p2 n2 c2) := by simp only [World.cell?, hblk]; rfl
          have HTM8 : Hid (TM H w8 vo xs ts) := HTM.out.same HB2.out (fun q hq => (hb8.block q (by rw [size_alloc]; have := (HTM.out.own.lt q hq).2; omega)).trans (Below.heap_alloc _ _ _ (HTM.out.own.lt q hq).2))
          have HPF := Lib.hid hb
          have hH8 : H ≤ w8.heap.size := by omega
          clear hb hb8 hblk
          cases b with
          | false =>
            dsimp only
            go_wp2_with fail
            refine bodyPost_ret (results_tmp2 rfl _ _ _) rfl ?_
            exact .no (by rw [← HHH.out]; exact HBL.out)
          | true =>
          by_cases h20 : (20 : Int) < (N : Int)
          · dsimp only
            go_wp2_with fail
            refine bodyPost_ret (results_tmp2 rfl _ _ _) rfl ?_
            exact .no (by rw [← HHH.out]; exact HBL.out)
          have hx50 : ¬ (50 : Int) < ((S x).size : Int) := by have h1 := (HPF.out (by trivial)).len; have h2 := HSZ.out; omega
          have HPR : Hid (ProperT ⟨x, 0, lx⟩) := ProperT.of (HPF.out (by trivial))
          have hil8 : ts.length ≤ 20 := by have h1 := HI.out; omega
          dsimp only
          go_wp2_with (at_builtin; refine wpList_append_lies _ rfl (.tmp 52) (.tmp 54) 48 rfl H 36 i36 _ 3 48 Tryd.underlying48 hi hz0 hz1 hz2 rfl (by decide) _ ts.length xs rfl (HTM8.out.own.alloc _) ⟨w8.heap.size, 0, none⟩ 1 1 [.string (S x), .int .i64 0, (.slice p2 n2 c2)] rfl rfl (World.news_of_block (cs := #[.string (S x), .int .i64 0, (.slice p2 n2 c2)]) (heap_alloc_new _ _)) (by intro u hu; simp at hu; rcases hu with rfl | rfl | rfl <;> rfl) (by decide) (by unfold maxLen; omega) (by omega) (by rw [size_alloc]; omega) _ rfl ?_; intro g' c' w9 hown hgrow hat hlt9)
          have hg8 : Below H w8 w9 := ((Below.refl H w8).alloc hH8 _).grown hgrow (by rw [size_alloc]; omega) (fun q hq => (HTM8.out.own.lt q hq).1)
          have HG8 := Lib.hid hg8
          have HOW := Lib.hid hown
          clear hg8 hown hgrow hat
          go_roundw
          case rel =>
            refine ⟨i + 1, _, xs ++ [.string (S x), .int .i64 0, (.slice p2 n2 c2)], ts ++ [⟨x, 0, lx⟩], by go_num, rfl, by omega, ⟨by rw [List.length_append, HI.out.1]; rfl, fun _ => by omega⟩, HBL.out.trans HG8.out, ?_, fun t ht => ?_⟩
            · exact HTM8.out.push ⟨x, 0, lx⟩ (.slice p2 n2 c2) (fun w' hb' => HSC.out.below (by rw [← HHH.out]; exact (HBL.out.trans HG8.out).trans hb')) HG8.out HOW.out
            · rcases List.mem_append.1 ht with ht | ht
              · exact HPT.out t ht
              · rw [List.mem_singleton] at ht; subst ht; exact HPR.out
          case measure => simp [intOf]; omega
        · have HLB : Hid (([] : List (List UInt8)).length ≤ 2147483647 ∧ ∀ x ∈ ([] : List (List UInt8)), x.length ≤ 2147483647) := ⟨by simp, fun x hx => by simp at hx⟩
          have HSC : Hid (SC w (.slice none 0 0) []) := SC.nil w
          have HP : Hid (∀ w7, Below H w w7 → Calls Tryd.prog 21 #[.agg #[.string (S x), .int .i64 0, (.slice none 0 0)]] w7 (ProperPost x 0 [] w7)) := fun w7 hb => by
            have := proper_any (S x) 0 (.slice none 0 0) [] w7 (HSC.out.below (by rw [← HHH.out]; exact hb)) hsz HLB.out.1 HLB.out.2
            rwa [hd] at this
          go_wp2_with fail
          refine (HP.out _ ?_).mono ?_
          · first | exact HBr.out.alloc hH _ | exact (HBr.out.alloc hH _).setCell hH _ | exact ((HBr.out.alloc hH _).setCell hH _).setCell hH _ | exact (((HBr.out.alloc hH _).setCell hH _).setCell hH _).setCell hH _
          rintro e w8 ⟨b, rfl, hb, hb8⟩
          have hlt8 : wr.heap.size < w8.heap.size := Nat.lt_of_lt_of_le (by rw [size_alloc]; exact Nat.lt_succ_self _) hb8.size
          have HBL : Hid (Below H w w8) := (HBr.out.alloc hH _).trans (hb8.mono (by rw [size_alloc]; omega))
          have HB2 : Hid (Below H wr w8) := ((Below.refl H wr).alloc hH _).trans (hb8.mono (by rw [size_alloc]; omega))
          have hblk : w8.heap[wr.heap.size]? = some (.cells #[.string (S x), .int .i64 0, (.slice none 0 0)] 36 (0, 0)) := (hb8.block _ (by rw [size_alloc]; exact Nat.lt_succ_self _)).trans (heap_alloc_new _ _)
          have d0 : w8.cell? ⟨wr.heap.size, 0, none⟩ = some (.string (S x)) := by simp only [World.cell?, hblk]; rfl
          have d1 : w8.cell? ⟨wr.heap.size, 1, none⟩ = some (.int .i64 0) := by simp only [World.cell?, hblk]; rfl
          have d2 : w8.cell? ⟨wr.heap.size, 2, none⟩ = some (.slice none 0 0) := by simp only [World.cell?, hblk]; rfl
          have HTM8 : Hid (TM H w8 vo xs ts) := HTM.out.same HB2.out (fun q hq => (hb8.block q (by rw [size_alloc]; have := (HTM.out.own.lt q hq).2; omega)).trans (Below.heap_alloc _ _ _ (HTM.out.own.lt q hq).2))
          have HPF := Lib.hid hb
          have hH8 : H ≤ w8.heap.size := by omega
          clear hb hb8 hblk
          cases b with
          | false =>
            dsimp only
            go_wp2_with fail
            refine bodyPost_ret (results_tmp2 rfl _ _ _) rfl ?_
            exact .no (by rw [← HHH.out]; exact HBL.out)
          | true =>
          by_cases h20 : (20 : Int) < (N : Int)
          · dsimp only
            go_wp2_with fail
            refine bodyPost_ret (results_tmp2 rfl _ _ _) rfl ?_
            exact .no (by rw [← HHH.out]; exact HBL.out)
          have hx50 : ¬ (50 : Int) < ((S x).size : Int) := by have h1 := (HPF.out (by trivial)).len; have h2 := HSZ.out; omega
          have HPR : Hid (ProperT ⟨x, 0, []⟩) := ProperT.of (HPF.out (by trivial))
          have hil8 : ts.length ≤ 20 := by have h1 := HI.out; omega
          dsimp only
          go_wp2_with (at_builtin; refine wpList_append_lies _ rfl (.tmp 52) (.tmp 54) 48 rfl H 36 i36 _ 3 48 Tryd.underlying48 hi hz0 hz1 hz2 rfl (by decide) _ ts.length xs rfl (HTM8.out.own.alloc _) ⟨w8.heap.size, 0, none⟩ 1 1 [.string (S x), .int .i64 0, (.slice none 0 0)] rfl rfl (World.news_of_block (cs := #[.string (S x), .int .i64 0, (.slice none 0 0)]) (heap_alloc_new _ _)) (by intro u hu; simp at hu; rcases hu with rfl | rfl | rfl <;> rfl) (by decide) (by unfold maxLen; omega) (by omega) (by rw [size_alloc]; omega) _ rfl ?_; intro g' c' w9 hown hgrow hat hlt9)
          have hg8 : Below H w8 w9 := ((Below.refl H w8).alloc hH8 _).grown hgrow (by rw [size_alloc]; omega) (fun q hq => (HTM8.out.own.lt q hq).1)
          have HG8 := Lib.hid hg8
          have HOW := Lib.hid hown
          clear hg8 hown hgrow hat
          go_roundw
          case rel =>
            refine ⟨i + 1, _, xs ++ [.string (S x), .int .i64 0, (.slice none 0 0)], ts ++ [⟨x, 0, []⟩], by go_num, rfl, by omega, ⟨by rw [List.length_append, HI.out.1]; rfl, fun _ => by omega⟩, HBL.out.trans HG8.out, ?_, fun t ht => ?_⟩
            · exact HTM8.out.push ⟨x, 0, []⟩ (.slice none 0 0) (fun w' hb' => HSC.out.below (by rw [← HHH.out]; exact (HBL.out.trans HG8.out).trans hb')) HG8.out HOW.out
            · rcases List.mem_append.1 ht with ht | ht
              · exact HPT.out t ht
              · rw [List.mem_singleton] at ht; subst ht; exact HPR.out
          case measure => simp [intOf]; omega
    · go_wp2_with fail
      refine bodyPost_ret (results_tmp2 rfl _ _ _) rfl ?_
      have h1 := HI.out
      refine ⟨_, true, rfl, by rw [← HHH.out]; exact HBr.out, fun _ => ⟨ts, HTM.out.tsc, ?_, HPT.out⟩⟩
      by_cases h0 : 0 < i
      · have := h1.2 h0; omega
      · omega

end Go.Proofs.YtdljobmhnnegiaaDoor

/- laws.zzFits1, zzFits2 (27, 32), spec.ended, told (45, 46), spec.Failed (29). -/
namespace Go.Proofs.YtdljobmhnnegiaaDoor
open Go.RowKit

def Fit1 (ns : List (List UInt8)) : Prop := ns.length ≤ 2147483647 ∧ ∀ n ∈ ns, n.length ≤ 2147483647
def Fit2 (lss : List (List (List UInt8))) : Prop := lss.length ≤ 2147483647 ∧ ∀ ls ∈ lss, Fit1 ls
def FitPost (p : Prop) (w : World) (e : Ending) (w' : World) : Prop := ∃ b, e = .returned (.bool b) ∧ (b = true → p) ∧ w = w'
theorem FitPost.no {p : Prop} {w : World} : FitPost p w (.returned (.bool false)) w := ⟨false, rfl, (fun h => by cases h), rfl⟩

set_option maxRecDepth 100000 in
theorem fits1_any (v : Value) (ns : List (List UInt8)) (w : World) (h : SC w v ns) : Calls Tryd.prog 27 #[v] w (FitPost (Fit1 ns) w) := by
  obtain ⟨p, cap, rfl, hc, hel⟩ := h
  have HEL := Lib.hid hel
  obtain ⟨N, hN⟩ : ∃ N, N = ns.length := ⟨_, rfl⟩
  have HN := Lib.hid hN
  rw [← hN] at hc ⊢
  clear hel hN
  by_cases hbig : (2147483647 : Int) < (N : Int)
  · go_enter Tryd.func27, Tryd.ntmps27
    go_wp2
    go_ret
    exact .no
  go_enter Tryd.func27, Tryd.ntmps27
  go_wp2_with fail
  go_loop [10] (fun v10 => ∃ i : Nat, i ≤ N ∧ v10 = .int .i64 i ∧ Hid (∀ l ∈ ns.take i, l.length ≤ 2147483647)) (fun i => N - (intOf i).toNat)
  case atStart => exact ⟨0, Nat.zero_le _, rfl, fun c hc => by simp at hc⟩
  case round =>
    obtain ⟨j, hj, rfl, HL⟩ := hrel
    by_cases hlt : j < N
    · have hjl : j < ns.length := by have := HN.out; omega
      obtain ⟨g, off, hp, hcell⟩ := HEL.out j hjl
      subst hp
      obtain ⟨x, hx⟩ : ∃ x, x = S ns[j] := ⟨_, rfl⟩
      have hxs : x.size = ns[j].length := by rw [hx]; exact S_size _
      rw [← hx] at hcell
      have HXS := Lib.hid hxs
      clear hx hxs
      by_cases hb : (2147483647 : Int) < (x.size : Int)
      · go_wp2_with fail
        go_ret
        exact .no
      · go_wp2_with fail
        go_round
        case rel =>
          refine ⟨j + 1, by omega, by go_num, ?_⟩
          intro l hl
          rw [List.take_succ_eq_append_getElem hjl] at hl
          rcases List.mem_append.1 hl with hl | hl
          · exact HL.out l hl
          · rw [List.mem_singleton] at hl
            subst hl
            have := HXS.out
            omega
        case measure => simp [intOf]; omega
    · go_wp2_with fail
      go_ret
      refine ⟨true, rfl, fun _ => ⟨by have := HN.out; omega, ?_⟩, rfl⟩
      have := HL.out
      rwa [List.take_of_length_le (by have := HN.out; omega)] at this

set_option maxRecDepth 100000 in
theorem fits2_any (v : Value) (ns : List (List (List UInt8))) (w : World) (h : SSC w v ns) : Calls Tryd.prog 32 #[v] w (FitPost (Fit2 ns) w) := by
  obtain ⟨p, cap, rfl, hc, hel⟩ := h
  have HEL := Lib.hid hel
  obtain ⟨N, hN⟩ : ∃ N, N = ns.length := ⟨_, rfl⟩
  have HN := Lib.hid hN
  rw [← hN] at hc ⊢
  clear hel hN
  by_cases hbig : (2147483647 : Int) < (N : Int)
  · go_enter Tryd.func32, Tryd.ntmps32
    go_wp2
    go_ret
    exact .no
  go_enter Tryd.func32, Tryd.ntmps32
  go_wp2_with fail
  go_loop [10] (fun v10 => ∃ i : Nat, i ≤ N ∧ v10 = .int .i64 i ∧ Hid (∀ l ∈ ns.take i, Fit1 l)) (fun i => N - (intOf i).toNat)
  case atStart => exact ⟨0, Nat.zero_le _, rfl, fun c hc => by simp at hc⟩
  case round =>
    obtain ⟨j, hj, rfl, HL⟩ := hrel
    by_cases hlt : j < N
    · have hjl : j < ns.length := by have := HN.out; omega
      obtain ⟨g, off, lv, hp, hcell, hsc⟩ := HEL.out j hjl
      subst hp
      have HF : Hid (Calls Tryd.prog 27 #[lv] w (FitPost (Fit1 ns[j]) w)) := fits1_any lv _ w hsc
      clear hsc
      go_wp2_with fail
      refine HF.out.mono ?_
      rintro e w' ⟨b, rfl, hb, rfl⟩
      have HB := Lib.hid hb
      clear hb
      cases b with
      | false =>
        dsimp only
        go_wp2_with fail
        go_ret
        exact .no
      | true =>
        dsimp only
        go_wp2_with fail
        go_round
        case rel =>
          refine ⟨j + 1, by omega, by go_num, ?_⟩
          intro l hl
          rw [List.take_succ_eq_append_getElem hjl] at hl
          rcases List.mem_append.1 hl with hl | hl
          · exact HL.out l hl
          · rw [List.mem_singleton] at hl
            subst hl
            exact HB.out (by trivial)
        case measure => simp [intOf]; omega
    · go_wp2_with fail
      go_ret
      refine ⟨true, rfl, fun _ => ⟨by have := HN.out; omega, ?_⟩, rfl⟩
      have := HL.out
      rwa [List.take_of_length_le (by have := HN.out; omega)] at this

/-- spec.Failed. -/
theorem specFailed_any (v : Value) (ts : List TT) (w : World) (h : TSC w v ts) (hn : ts.length ≤ 20) : Calls Tryd.prog 29 #[v] w fun e w' => e = .returned (.bool (ts.any fun t => t.kind == 1)) ∧ Below w.heap.size w w' := by
  obtain ⟨p, cap, rfl, hc, hel⟩ := h
  have HEL := Lib.hid hel
  obtain ⟨N, hN⟩ : ∃ N, N = ts.length := ⟨_, rfl⟩
  have HN := Lib.hid hN
  rw [← hN] at hc hn ⊢
  clear hel hN
  go_enter Tryd.func29, Tryd.ntmps29
  go_wp2_with fail
  go_loopw [7] (fun v7 wr => ∃ i : Nat, i ≤ N ∧ v7 = .int .i64 i ∧ Hid ((ts.take i).any (fun t => t.kind == 1) = false) ∧ Hid (Below w.heap.size w wr)) (fun i _ => N - (intOf i).toNat)
  case atStart => exact ⟨0, Nat.zero_le _, rfl, rfl, Below.refl _ _⟩
  case round =>
    obtain ⟨j, hj, rfl, HL, HB⟩ := hrel
    by_cases hlt : j < N
    · have hjl : j < ts.length := by have := HN.out; omega
      obtain ⟨g, hp, h0, h1, lv, h2, p2, c2, rfl, _, _⟩ := HEL.out j hjl
      subst hp
      obtain ⟨n2, hn2⟩ : ∃ n2, n2 = ts[j].lines.length := ⟨_, rfl⟩
      rw [← hn2] at h2
      have d0 := cellB HB.out h0
      have d1 := cellB HB.out h1
      have d2 := cellB HB.out h2
      obtain ⟨nm, hnm⟩ : ∃ nm, nm = S ts[j].name := ⟨_, rfl⟩
      rw [← hnm] at d0
      obtain ⟨k, hk⟩ : ∃ k, k = ts[j].kind := ⟨_, rfl⟩
      rw [← hk] at d1
      have HK := Lib.hid hk
      clear h0 h1 h2 hnm hk hn2
      by_cases k1 : k = 1
      · have b1 : ((k : Int) == 1) = true := by simp; omega
        go_wp2_with fail
        go_ret
        refine ⟨ret_bool ?_, HB.out.alloc HB.out.size _⟩
        refine (List.any_eq_true.2 ⟨ts[j], List.getElem_mem hjl, ?_⟩).symm
        rw [← HK.out, k1]; rfl
      · have b1 : ((k : Int) == 1) = false := by simp; omega
        go_wp2_with fail
        go_roundw
        case rel =>
          refine ⟨j + 1, by omega, by go_num, ?_, HB.out.alloc HB.out.size _⟩
          show _ = _
          rw [List.take_succ_eq_append_getElem hjl, List.any_append, HL.out]
          have := HK.out
          simp
          omega
        case measure => simp [intOf]; omega
    · go_wp2_with fail
      go_ret
      refine ⟨ret_bool ?_, HB.out⟩
      have := HL.out
      rw [List.take_of_length_le (by have := HN.out; omega)] at this
      exact this.symm

set_option maxRecDepth 100000 in
theorem ended_any (k : Nat) (hk : k ≤ 2) (w : World) : Calls Tryd.prog 45 #[.int .i64 k] w fun e w' => e = .returned (.string (S (endedL k))) ∧ Below w.heap.size w w' := by
  have HB : Hid (∀ o, Below w.heap.size w (w.alloc o)) := fun o => (Below.refl _ w).alloc (Nat.le_refl _) o
  go_enter Tryd.func45, Tryd.ntmps45
  rcases (show k = 0 ∨ k = 1 ∨ k = 2 by omega) with rfl | rfl | rfl <;>
  (go_wp2_with fail
   go_ret
   exact ⟨rfl, HB.out _⟩)
set_option maxRecDepth 100000 in
theorem told_any (k : Nat) (hk : k ≤ 2) (w : World) : Calls Tryd.prog 46 #[.int .i64 k] w fun e w' => e = .returned (.string (S (toldL k))) ∧ Below w.heap.size w w' := by
  have HB : Hid (∀ o, Below w.heap.size w (w.alloc o)) := fun o => (Below.refl _ w).alloc (Nat.le_refl _) o
  go_enter Tryd.func46, Tryd.ntmps46
  rcases (show k = 0 ∨ k = 1 ∨ k = 2 by omega) with rfl | rfl | rfl <;>
  (go_wp2_with fail
   go_ret
   exact ⟨rfl, HB.out _⟩)

end Go.Proofs.YtdljobmhnnegiaaDoor
