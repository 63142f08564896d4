/- zzIndex (71), zzCut (67): the plain functions idxF, cutF. -/
import Derived.Test.YtdljobmhnnegiaaDoorConv
import Derived.Test.YtdljobmhnnegiaaDoorWriteB
import Derived.BigQuiet
import Derived.Deep.QuietTactic
import Derived.Lib.IndexBytes
namespace Go.Proofs.YtdljobmhnnegiaaDoor
open Go.RowKit

theorem S_extract (l : List UInt8) (a b : Nat) : (S l).extract a b = S ((l.drop a).take (b - a)) := by
  have h := Lib.extract_data (S l) a b
  rw [S_toList] at h
  have e := S_of ((S l).extract a b)
  rw [← e, h]

theorem idxF_none_short {sub : List UInt8} : ∀ (l : List UInt8) (i : Nat), l.length < sub.length → idxF sub l i = none
  | [], i, h => by unfold idxF; rw [if_neg (fun e => by rw [e] at h; simp at h)]
  | c :: r, i, h => by
    unfold idxF
    rw [if_neg (fun hh => by have := hasPre_len _ _ hh; omega)]
    exact idxF_none_short r (i + 1) (by simp at h; omega)
theorem idxF_le {sub : List UInt8} : ∀ (l : List UInt8) (i j : Nat), idxF sub l i = some j → i ≤ j ∧ j + sub.length ≤ i + l.length
  | [], i, j, h => by
    unfold idxF at h
    split at h
    · rename_i e; simp at h; rw [e]; simp; omega
    · cases h
  | c :: r, i, j, h => by
    unfold idxF at h
    split at h
    · rename_i hh; simp at h; have := hasPre_len _ _ hh; omega
    · have := idxF_le r (i + 1) j h; simp; omega

theorem cutF_len (l sep : List UInt8) : (cutF l sep).1.length ≤ l.length ∧ (cutF l sep).2.length ≤ l.length := by
  unfold cutF
  split
  · simp; omega
  · simp

def optI : Option Nat → Int
  | some i => i
  | none => -1

set_option maxRecDepth 100000 in
set_option maxHeartbeats 4000000 in
theorem zzIndex_any (l sub : List UInt8) (w : World) (hl : l.length ≤ 1000000) (hs : sub.length ≤ 1000000) (hs0 : 0 < sub.length) :
    Calls Tryd.prog 71 #[.string (S l), .string (S sub)] w fun e w' => e = .returned (.int .i64 (optI (idxF sub l 0))) ∧ w = w' := by
  obtain ⟨N, hN⟩ : ∃ N, N = l.length := ⟨_, rfl⟩
  obtain ⟨M, hM⟩ : ∃ M, M = sub.length := ⟨_, rfl⟩
  have e1 : (S l).size = N := by rw [S_size, hN]
  have e2 : (S sub).size = M := by rw [S_size, hM]
  rw [← hN] at hl
  rw [← hM] at hs hs0
  have HN := Lib.hid hN
  have HM := Lib.hid hM
  clear hN hM
  go_enter Tryd.func71, Tryd.ntmps71
  go_wp2
  go_loop [5] (fun v => ∃ i : Nat, i ≤ N ∧ v = .int .i64 i ∧ Hid (idxF sub l 0 = idxF sub (l.drop i) i)) (fun v => N - (intOf v).toNat)
  case atStart => exact ⟨0, Nat.zero_le _, rfl, rfl⟩
  case round =>
    obtain ⟨i, hi, rfl, HI⟩ := hrel
    by_cases hle : i + M ≤ N
    · have hx : (S l).extract i (i + M) = S ((l.drop i).take M) := by rw [S_extract]; congr 2; omega
      have hcons : Hid (∃ c r, l.drop i = c :: r ∧ l.drop (i + 1) = r) := by
        have hlt : i < l.length := by have := HN.out; omega
        exact ⟨_, _, List.drop_eq_getElem_cons hlt, rfl⟩
      have hpre : Hid (((l.drop i).take M == sub) = hasPre (l.drop i) sub) := by
        show _ = _
        unfold hasPre
        rw [List.length_drop, ← HN.out, ← HM.out, decide_eq_true (by omega), Bool.true_and]
      by_cases hb : ((l.drop i).take M == sub) = true
      · have hb2 : ((S ((l.drop i).take M)).data.toList == (S sub).data.toList) = true := hb
        have HB := Lib.hid hb
        clear hb
        go_wp2
        go_ret
        refine ⟨ret_int ?_, rfl⟩
        obtain ⟨c, r, h1, _⟩ := hcons.out
        have h2 := hpre.out.symm.trans HB.out
        rw [HI.out, h1] at *
        unfold idxF
        rw [if_pos h2]; rfl
      · have hb1 : ((l.drop i).take M == sub) = false := by simpa using hb
        have hb2 : ((S ((l.drop i).take M)).data.toList == (S sub).data.toList) = false := hb1
        have HB := Lib.hid hb1
        clear hb hb1
        go_wp2
        go_round
        case rel =>
          refine ⟨i + 1, by omega, by go_num, ?_⟩
          show _ = _
          obtain ⟨c, r, h1, h3⟩ := hcons.out
          have h2 := hpre.out.symm.trans HB.out
          rw [HI.out, h3]
          rw [h1] at h2 ⊢
          conv => lhs; unfold idxF
          rw [if_neg (by rw [h2]; simp)]
        case measure => simp [intOf]; omega
    · have hle' : ¬ ((i : Int) + (M : Int) ≤ (N : Int)) := by omega
      go_wp2
      go_ret
      refine ⟨ret_int ?_, rfl⟩
      rw [HI.out, idxF_none_short _ _ (by rw [List.length_drop, ← HN.out, ← HM.out]; omega)]
      rfl

def CutPost (l sub : List UInt8) (w : World) (e : Ending) (w' : World) : Prop := ∃ b, e = .returned (.tuple #[.string (S (cutF l sub).1), .string (S (cutF l sub).2), .bool b]) ∧ Below w.heap.size w w'

set_option maxRecDepth 100000 in
set_option maxHeartbeats 4000000 in
theorem zzCut_any (l sub : List UInt8) (w : World) (hl : l.length ≤ 1000000) (hs : sub.length ≤ 1000000) (hs0 : 0 < sub.length) :
    Calls Tryd.prog 67 #[.string (S l), .string (S sub)] w (CutPost l sub w) := by
  obtain ⟨N, hN⟩ : ∃ N, N = l.length := ⟨_, rfl⟩
  obtain ⟨M, hM⟩ : ∃ M, M = sub.length := ⟨_, rfl⟩
  have e1 : (S l).size = N := by rw [S_size, hN]
  have e2 : (S sub).size = M := by rw [S_size, hM]
  have hidx := zzIndex_any l sub w hl hs hs0
  obtain ⟨R, hR⟩ : ∃ R, R = idxF sub l 0 := ⟨_, rfl⟩
  rw [← hR] at hidx
  have HX := Lib.hid hidx
  have HR := Lib.hid hR
  have HN := Lib.hid hN
  have HM := Lib.hid hM
  rw [← hN] at hl
  rw [← hM] at hs hs0
  clear hidx hR hN hM
  cases R with
  | none =>
    simp only [optI] at HX
    go_enter Tryd.func67, Tryd.ntmps67
    go_wp2_with (go_at_call 71; refine HX.out.mono ?_; rintro e w' ⟨rfl, rfl⟩)
    go_ret3
    refine ⟨false, ?_, Below.refl _ _⟩
    unfold cutF
    rw [← HR.out]
    rfl
  | some i =>
    have hile := idxF_le l 0 i HR.out.symm
    rw [← HN.out, ← HM.out] at hile
    have b0 : (0 : Int) ≤ (i : Int) := by omega
    have b1 : (i : Int) ≤ (N : Int) := by omega
    have b2 : (i : Int) + (M : Int) ≤ (N : Int) := by omega
    have b3 : (0 : Int) ≤ (i : Int) + (M : Int) := by omega
    have k1 : IntKind.i64.wrap ((i : Int) + (M : Int)) = (i : Int) + (M : Int) := IntWalk.i64_in _ (by omega)
    have k2 : ((i : Int) + (M : Int)).toNat = i + M := by rw [show ((i : Int) + (M : Int)) = ((i + M : Nat) : Int) by omega]; exact Int.toNat_natCast _
    have x1 : (S l).extract 0 i = S (l.take i) := by rw [S_extract]; simp
    have x2 : (S l).extract (i + M) N = S (l.drop (i + M)) := by rw [S_extract, List.take_of_length_le (by rw [List.length_drop, ← HN.out]; omega)]
    have HC : Hid (cutF l sub = (l.take i, l.drop (i + M))) := by show _ = _; unfold cutF; rw [← HR.out, HM.out]
    simp only [optI] at HX
    clear hile
    go_enter Tryd.func67, Tryd.ntmps67
    go_wp2_with (go_at_call 71; refine HX.out.mono ?_; rintro e w' ⟨rfl, rfl⟩)
    go_quiet (fail)
    go_wp2
    go_ret3
    refine ⟨true, ?_, drewN_below _ _⟩
    rw [HC.out]
    rfl

end Go.Proofs.YtdljobmhnnegiaaDoor
