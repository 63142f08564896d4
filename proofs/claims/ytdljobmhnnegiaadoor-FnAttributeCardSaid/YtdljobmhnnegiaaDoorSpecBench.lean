/- The contract of spec.Benchmark, and the plain law: over ASCII it says what isBenchmarkName says. -/
import Derived.Test.YtdljobmhnnegiaaDoorBench
import Derived.Lib.Strings
import Derived.Lib.IndexBytes
namespace Go.Proofs.YtdljobmhnnegiaaDoor
open Go.RowKit

/-- What spec.Benchmark says. -/
def specB (l : List UInt8) : Bool := hasPre l benchL && (l.length == 9 || decide ((l.getD 9 0).toNat < 97) || decide (122 < (l.getD 9 0).toNat))

theorem low_ascii (m : Nat) (h : m < 128) : (!Lib.isLowerU (m : Int)) = (decide (m < 97) || decide (122 < m)) := by
  have e1 : Lib.latin1 (m : Int) = true := by unfold Lib.latin1; exact decide_eq_true (by omega)
  have e2 : Lib.isLowerU (m : Int) = Lib.isLowerL (m : Int) := by unfold Lib.isLowerU; rw [if_pos e1]
  rw [e2]
  by_cases a : m < 97
  · have e3 : Lib.isLowerL (m : Int) = false := by unfold Lib.isLowerL; exact decide_eq_false (by omega)
    rw [e3]; simp [a]
  · by_cases b : 122 < m
    · have e3 : Lib.isLowerL (m : Int) = false := by unfold Lib.isLowerL; exact decide_eq_false (by omega)
      rw [e3]; simp [b]
    · have e3 : Lib.isLowerL (m : Int) = true := by unfold Lib.isLowerL; exact decide_eq_true (by omega)
      rw [e3]; simp [a, b]

theorem specB_eq (l : List UInt8) (hl : ∀ c ∈ l, c.toNat < 128) : benchB l = specB l := by
  unfold benchB specB
  cases hp : hasPre l benchL with
  | false => rfl
  | true =>
    have hlen := hasPre_len l benchL hp
    have h2 : benchL.length = 9 := rfl
    by_cases h9 : l.length = 9
    · simp [h9]
    · have hlt : 9 < l.length := by omega
      have e1 : (l.length == 9) = false := by simp [h9]
      rw [e1, Bool.true_and, Bool.true_and, Bool.false_or, Bool.false_or]
      have hd : l.drop 9 = l[9] :: l.drop 10 := List.drop_eq_getElem_cons hlt
      have hc := hl l[9] (List.getElem_mem hlt)
      have hg : l.getD 9 0 = l[9] := by simp [List.getD_eq_getElem?_getD, List.getElem?_eq_getElem hlt]
      have hdec : Lib.decodeGo (S (l.drop 9)) = (l[9].toNat, 1) := by
        unfold Lib.decodeGo
        have hsz : (S (l.drop 9)).size = l.length - 9 := by rw [S_size, List.length_drop]
        rw [if_neg (by rw [hsz]; omega)]
        have h0 : 0 < (S (l.drop 9)).size := by rw [hsz]; omega
        have e0 : (S (l.drop 9))[0]'h0 = l[9] := by
          rw [← getD_at (S (l.drop 9)) 0 h0]
          show (l.drop 9).getD 0 0 = _
          rw [hd]; rfl
        rw [decode_ascii (S (l.drop 9)) 0 h0 (by rw [e0]; exact hc), e0]
      rw [hdec, hg]
      exact low_ascii _ hc

theorem extract_take (s : ByteArray) (k : Nat) : (s.extract 0 k).toList = s.data.toList.take k := by
  rw [ByteArray.toList_eq, Lib.extract_data]; simp
theorem extract_end (s : ByteArray) (k : Nat) : (s.extract k s.size).toList = s.data.toList.drop k := by
  rw [ByteArray.toList_eq, Lib.extract_to_end]

set_option maxRecDepth 100000 in
set_option maxHeartbeats 800000 in
theorem specBench_any (s : ByteArray) (w : World) (hs : s.size ≤ 140737488351232) :
    Calls Tryd.prog 15 #[.string s] w fun e w' => e = .returned (.bool (specB s.data.toList)) ∧ w = w' := by
  have hL : s.data.toList.length = s.size := by simp
  have HL := Lib.hid hL
  clear hL
  by_cases h9 : s.size < 9
  · go_enter Tryd.func15, Tryd.ntmps15
    go_wp2
    go_ret
    refine ⟨ret_bool ?_, rfl⟩
    unfold specB hasPre
    rw [HL.out, show (decide (benchL.length ≤ s.size)) = false by simp [benchL]; omega]
    rfl
  · obtain ⟨p, hp⟩ : ∃ p, ((s.extract 0 9).toList == [66, 101, 110, 99, 104, 109, 97, 114, 107]) = p := ⟨_, rfl⟩
    have HP : Hid (hasPre s.data.toList benchL = p) := by
      show _ = _
      unfold hasPre
      rw [HL.out, show (decide (benchL.length ≤ s.size)) = true by simp [benchL]; omega, ← hp, extract_take s 9]
      rfl
    cases p with
    | false =>
      go_enter Tryd.func15, Tryd.ntmps15
      go_wp2
      go_ret
      refine ⟨ret_bool ?_, rfl⟩
      unfold specB
      rw [HP.out]; rfl
    | true =>
      by_cases he : s.size = 9
      · have h1 : (s.extract 9 s.size).toList = [] := by rw [extract_end, List.drop_eq_nil_of_le (by rw [HL.out]; omega)]
        go_enter Tryd.func15, Tryd.ntmps15
        go_wp2
        go_ret
        refine ⟨ret_bool ?_, rfl⟩
        unfold specB
        rw [HP.out, HL.out, he]; rfl
      · have hx : ∃ c r, (s.extract 9 s.size).toList = c :: r := by
          have : s.data.toList.drop 9 ≠ [] := by intro h; have := List.drop_eq_nil_iff.1 h; rw [HL.out] at this; omega
          rw [extract_end]
          exact List.exists_cons_of_ne_nil this
        have h1 : (s.extract 9 s.size).toList.isEmpty = false := by obtain ⟨c, r, h⟩ := hx; rw [h]; rfl
        have h1' : ¬ (s.extract 9 s.size).toList = [] := by obtain ⟨c, r, h⟩ := hx; rw [h]; simp
        clear hx
        have h2 : 0 < s.size - 9 := by omega
        have hsz : 0 < (s.extract 9 s.size).size := by rw [ByteArray.size_extract]; omega
        obtain ⟨m, hm⟩ : ∃ m, m = (s.data.toList.getD 9 0).toNat := ⟨_, rfl⟩
        have h3 : (((s.extract 9 s.size)[0]'hsz).toNat : Int) = (m : Int) := by
          rw [hm, ← getD_at (s.extract 9 s.size) 0 hsz, Lib.extract_to_end]
          simp [List.getD_eq_getElem?_getD]
        have HM := Lib.hid hm
        have HE : Hid ((s.size == 9) = false) := by show _ = _; simp [he]
        clear hm he
        by_cases a : m < 97
        · go_enter Tryd.func15, Tryd.ntmps15
          go_wp2
          go_ret
          refine ⟨ret_bool ?_, rfl⟩
          unfold specB
          rw [HP.out, HL.out, HE.out, ← HM.out]
          simp [a]
        · go_enter Tryd.func15, Tryd.ntmps15
          go_wp2
          go_ret
          refine ⟨ret_bool ?_, rfl⟩
          unfold specB
          rw [HP.out, HL.out, HE.out, ← HM.out]
          simp only [Bool.true_and, Bool.false_or]
          congr 1 <;> (apply decide_eq_decide.2; omega)

end Go.Proofs.YtdljobmhnnegiaaDoor
