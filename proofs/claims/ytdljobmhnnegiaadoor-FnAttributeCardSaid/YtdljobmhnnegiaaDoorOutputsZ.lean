/- laws.outputs (function 25) and spec.Renamed (function 24). -/
import Derived.Test.YtdljobmhnnegiaaDoorZ6
import Derived.Test.YtdljobmhnnegiaaDoorZ4
namespace Go.Proofs.YtdljobmhnnegiaaDoor
open Go.RowKit

theorem outsL_take (es : List Ev) (i : Nat) (h : i < es.length) : outsL (es.take (i + 1)) = outsL (es.take i) ++ (if es[i].action = tOut then es[i].output else []) := by
  rw [List.take_succ_eq_append_getElem h, outsL_append]
  congr 1
  unfold outsL
  simp
theorem outsL_take_le (es : List Ev) (i : Nat) : (outsL (es.take i)).length ≤ (outsL es).length := by
  conv => rhs; rw [← List.take_append_drop i es, outsL_append, List.length_append]
  omega

set_option maxRecDepth 100000 in
set_option maxHeartbeats 4000000 in
theorem outputs_any {w : World} {pkg : List UInt8} {evs : List Ev} {g n c : Nat} (h : EvsAt w pkg evs (.slice (some ⟨g, 0, none⟩) n c)) (hn : n = evs.length) (_hc : n ≤ c) (hl : (outsL evs).length ≤ 1000000) :
    Calls Tryd.prog 25 #[.slice (some ⟨g, 0, none⟩) n c] w fun e w' => e = .returned (.string (S (outsL evs))) ∧ Below w.heap.size w w' := by
  have hbig : n ≤ maxLen := by rw [hn]; exact h.few
  have hbig2 : n ≤ 9223372036854775807 := by unfold maxLen at hbig; omega
  have HAT := Lib.hid h
  have HN := Lib.hid hn
  have HLE := Lib.hid hl
  clear h hn hl
  go_enter Tryd.func25, Tryd.ntmps25
  go_wp2_with fail
  go_loopw [3, 8] (fun v3 v8 wr => ∃ (i : Nat) (sa : ByteArray), v8 = .int .i64 i ∧ v3 = .string sa ∧ i ≤ n ∧ sa.size ≤ 1000000 ∧ Hid (sa.data.toList = outsL (evs.take i)) ∧ Hid (Below w.heap.size w wr)) (fun _ v8 _ => n - (intOf v8).toNat)
  case atStart => exact ⟨0, _, rfl, rfl, Nat.zero_le _, by decide, rfl, Below.refl _ _⟩
  case round =>
    obtain ⟨i, sa, rfl, rfl, hin, hsa, HSA, HBr⟩ := hrel
    by_cases hlt : i < n
    · obtain ⟨e, p1, n1, c1, he, hc1⟩ := (HAT.out.below HBr.out).at HN.out i hlt
      have hie : i < evs.length := by rw [← HN.out]; exact hlt
      have hee : evs[i] = e := by
        have := he.out
        rw [List.getElem?_eq_getElem hie] at this
        exact Option.some.inj this
      have hbo : ∀ o, Below wr.heap.size wr (wr.alloc o) := fun o => (Below.refl _ wr).alloc (Nat.le_refl _) o
      have s1 : ∀ o, (convert 23 9 (.slice p1 n1 c1)).run Tryd.prog (wr.alloc o) = .ok (.string (S e.output)) (wr.alloc o) := fun o => hc1.str (hbo o)
      obtain ⟨d0, d1, d2, d3, d4, d5, d6, d7, d8, _⟩ := hc1
      have htk := outsL_take evs i hie
      rw [hee, ← HSA.out] at htk
      have hle := outsL_take_le evs (i + 1)
      by_cases ha : e.action = tOut
      · rw [if_pos ha] at htk
        have hso : sa.size + (S e.output).size ≤ 1000000 := by
          rw [htk, List.length_append] at hle
          have h1 : sa.data.toList.length = sa.size := Array.length_toList
          have h2 := HLE.out
          have h3 := S_size e.output
          omega
        have b1 : ((S e.action).data.toList == [111, 117, 116, 112, 117, 116]) = true := by show (e.action == tOut) = true; rw [beq_iff_eq]; exact ha
        have a1 : ¬ 9223372036854775807 < sa.size + (S e.output).size := by omega
        have a2 : ¬ 9223372036854775807 < sa.size + e.output.length := by rw [← S_size]; omega
        have HTK := Lib.hid htk
        clear ha he hee htk hle hbo
        go_wp2_with fail
        go_roundw
        case rel =>
          refine ⟨i + 1, sa ++ S e.output, by go_num, rfl, by omega, by rw [ByteArray.size_append]; exact hso, ?_, HBr.out.alloc HBr.out.size _⟩
          show _ = _
          rw [HTK.out]; simp
        case measure => simp [intOf]; omega
      · rw [if_neg ha, List.append_nil] at htk
        have b1 : ((S e.action).data.toList == [111, 117, 116, 112, 117, 116]) = false := by show (e.action == tOut) = false; rw [beq_eq_false_iff_ne]; exact ha
        have HTK := Lib.hid htk
        clear ha he hee htk hle hbo
        go_wp2_with fail
        go_roundw
        case rel => exact ⟨i + 1, sa, by go_num, rfl, by omega, hsa, HTK.out.symm, HBr.out.alloc HBr.out.size _⟩
        case measure => simp [intOf]; omega
    · have HSE : Hid (sa = S (outsL evs)) := by
        have := HSA.out
        rw [List.take_of_length_le (by rw [← HN.out]; omega)] at this
        show _ = _
        rw [← this]
      go_wp2_with fail
      go_ret
      rw [HSE.out]
      exact ⟨rfl, HBr.out⟩

def RenPost (l : List UInt8) (w : World) (e : Ending) (w' : World) : Prop := ∃ b, e = .returned (.bool b) ∧ (b = false → ∀ u v, l ≠ u ++ tName ++ v) ∧ w = w'
set_option maxRecDepth 100000 in
theorem renamed_any (s : ByteArray) (w : World) (hs : s.size ≤ 1000000) : Calls Tryd.prog 24 #[.string s] w (RenPost s.data.toList w) := by
  obtain ⟨M, hM⟩ : ∃ M, M = s.size := ⟨_, rfl⟩
  have HM : Hid (M = s.data.toList.length) := by show _ = _; rw [hM]; simp
  have hM2 : ((s.size : Nat) : Int) = (M : Int) := by rw [hM]
  go_enter Tryd.func24, Tryd.ntmps24
  go_wp2_with fail
  go_loop [3] (fun v3 => ∃ i : Nat, i ≤ M ∧ v3 = .int .i64 i ∧ Hid (∀ j, j < i → (s.data.toList.drop j).take 8 ≠ tName)) (fun i => M - (intOf i).toNat)
  case atStart => exact ⟨0, Nat.zero_le _, rfl, fun j hj => absurd hj (Nat.not_lt_zero _)⟩
  case round =>
    obtain ⟨i, hi, rfl, HA⟩ := hrel
    have k1 : IntKind.i64.wrap ((i : Int) + 8) = (i : Int) + 8 := IntWalk.i64_in _ (by omega)
    by_cases hlt : i + 8 ≤ M
    · have b1 : (i : Int) + 8 ≤ (M : Int) := by omega
      have b2 : (0 : Int) ≤ (i : Int) := by omega
      have b3 : (i : Int) ≤ (i : Int) + 8 := by omega
      have k2 : ((i : Int) + 8).toNat = i + 8 := by omega
      have hx : (s.extract i (i + 8)).data.toList = (s.data.toList.drop i).take 8 := by simp
      obtain ⟨x, hxx⟩ : ∃ x, x = s.extract i (i + 8) := ⟨_, rfl⟩
      rw [← hxx] at hx
      have HXX : Hid (x = s.extract i (i + 8)) := hxx
      have hxe : s.extract i (i + 8) = x := hxx.symm
      by_cases ht : x.data.toList = tName
      · have t1 : (x.toList == [61, 61, 61, 32, 78, 65, 77, 69]) = true := by rw [ByteArray.toList_eq, beq_iff_eq]; exact ht
        clear ht hx hxx
        go_wp2_with fail
        go_ret
        exact ⟨true, rfl, (fun h => by cases h), rfl⟩
      · have t1 : (x.toList == [61, 61, 61, 32, 78, 65, 77, 69]) = false := by rw [ByteArray.toList_eq, beq_eq_false_iff_ne]; exact ht
        have HNE : Hid ((s.data.toList.drop i).take 8 ≠ tName) := by rw [← hx]; exact ht
        clear ht hx hxx
        go_wp2_with fail
        go_round
        case rel =>
          refine ⟨i + 1, by omega, by go_num, fun j hj => ?_⟩
          by_cases hji : j < i
          · exact HA.out j hji
          · obtain rfl : j = i := by omega
            exact HNE.out
        case measure => simp [intOf]; omega
    · have b1 : ¬ (i : Int) + 8 ≤ (M : Int) := by omega
      go_wp2_with fail
      go_ret
      refine ⟨false, rfl, fun _ u v he => ?_, rfl⟩
      have hl := congrArg List.length he
      rw [List.length_append, List.length_append, ← HM.out] at hl
      have ht : tName.length = 8 := rfl
      refine HA.out u.length (by omega) ?_
      rw [he, List.append_assoc, List.drop_left, List.take_append_of_le_length (by rw [ht]; exact Nat.le_refl _), ← ht, List.take_length]

end Go.Proofs.YtdljobmhnnegiaaDoor
