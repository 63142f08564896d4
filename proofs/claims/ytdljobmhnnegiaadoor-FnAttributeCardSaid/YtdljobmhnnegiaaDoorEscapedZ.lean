/- spec.Escaped (function 26): an escape before each marker. -/
import Derived.Test.YtdljobmhnnegiaaDoorOutputsZ
import Derived.Test.YtdljobmhnnegiaaDoorValid
namespace Go.Proofs.YtdljobmhnnegiaaDoor
open Go.RowKit

theorem escL_cat : ∀ a b : List UInt8, escL (a ++ b) = escL a ++ escL b
  | [], b => rfl
  | c :: a, b => by
    have ih := escL_cat a b
    show (if isMark c = true then 27 :: c :: escL (a ++ b) else c :: escL (a ++ b)) = (if isMark c = true then 27 :: c :: escL a else c :: escL a) ++ escL b
    rw [ih]
    split <;> rfl
theorem markN_isMark (c : UInt8) : markN c.toNat = isMark c := by
  unfold markN isMark
  have h : ∀ k : UInt8, (c.toNat == k.toNat) = (c == k) := fun k => by
    rw [Bool.eq_iff_iff, beq_iff_eq, beq_iff_eq]
    exact UInt8.toNat_inj
  have h1 := h 22; have h2 := h 15; have h3 := h 14; have h4 := h 27
  simp only [show (22 : UInt8).toNat = 22 from rfl, show (15 : UInt8).toNat = 15 from rfl, show (14 : UInt8).toNat = 14 from rfl, show (27 : UInt8).toNat = 27 from rfl] at h1 h2 h3 h4
  rw [h1, h2, h3, h4]
theorem vals_cat (a b : List UInt8) : vals (a ++ b) = vals a ++ vals b := by unfold vals; simp

set_option maxRecDepth 100000 in
set_option maxHeartbeats 8000000 in
theorem escaped_any (s : ByteArray) (w : World) (hs : s.size ≤ 500) : Calls Tryd.prog 26 #[.string s] w fun e w' => e = .returned (.string (S (escL s.data.toList))) ∧ Below w.heap.size w w' := by
  obtain ⟨M, hM⟩ : ∃ M, M = s.size := ⟨_, rfl⟩
  have HM : Hid (M = s.data.toList.length) := by show _ = _; rw [hM]; simp
  have hM2 : ((s.size : Nat) : Int) = (M : Int) := by rw [hM]
  obtain ⟨H, hH⟩ : ∃ H, H = w.heap.size := ⟨_, rfl⟩
  have HHH := Lib.hid hH
  clear hH
  obtain ⟨i5, hi, hz0, hz1, hz2⟩ := info_parts info5
  have HM2 := Lib.hid hM
  go_enter Tryd.func26, Tryd.ntmps26
  go_wp2_with fail
  go_loopw [3, 7] (fun v3 v7 wr => ∃ (i : Nat) (vo : Value) (es : List UInt8), v7 = .int .i64 i ∧ vo = v3 ∧ i ≤ M ∧ es.length ≤ 2 * i ∧ Hid (es = escL (s.data.toList.take i)) ∧ Hid (Below H w wr) ∧ Hid (wr.ownsRow H 5 1 vo es.length (vals es))) (fun _ v7 _ => M - (intOf v7).toNat)
  case atStart => exact ⟨0, _, [], rfl, rfl, Nat.zero_le _, Nat.le_refl _, rfl, Below.refl _ _, ⟨rfl, .inl ⟨rfl, rfl⟩⟩⟩
  case round =>
    obtain ⟨i, vo, es, rfl, rfl, hin, hes, HES, HBr, HO⟩ := hrel
    have hH : H ≤ wr.heap.size := by rw [HHH.out]; have := HBr.out.size; exact this
    by_cases hltM : i < M
    · have hlt : i < s.size := by omega
      have hll : i < s.data.toList.length := by simpa using hlt
      have e : s.data.toList[i] = s[i]'hlt := rfl
      obtain ⟨c, hcc⟩ : ∃ c, c = s[i]'hlt := ⟨_, rfl⟩
      obtain ⟨m, hm⟩ : ∃ m, m = (s[i]'hlt).toNat := ⟨_, rfl⟩
      have hms : ((s[i]'hlt).toNat : Int) = (m : Int) := by rw [hm]
      have hmc : m = c.toNat := by rw [hm, hcc]
      have HTK : Hid (escL (s.data.toList.take (i + 1)) = escL (s.data.toList.take i) ++ escL [c]) := by
        show _ = _
        rw [List.take_succ_eq_append_getElem hll, escL_cat, e, ← hcc]
      have HMC := Lib.hid hmc
      obtain ⟨b, hb⟩ : ∃ b, b = markN m := ⟨_, rfl⟩
      have hc := fun w => mark_any m w
      rw [← hb] at hc
      have HC := Lib.hid hc
      have HB : Hid (b = isMark c) := by show _ = _; rw [hb, hmc]; exact markN_isMark c
      clear hm hmc hb hc hcc e
      cases b with
      | true =>
        go_wp2_with fail
        refine (HC.out _).mono ?_
        rintro e w' ⟨rfl, rfl⟩
        dsimp only
        go_wp2_with (first | (at_builtin; refine wpList_append_lies _ rfl (.tmp 14) (.tmp 15) 23 rfl H 5 i5 _ 1 1 Tryd.underlying23 hi hz0 hz1 hz2 rfl (by decide) _ es.length (vals es) rfl (HO.out.alloc _) ⟨wr.heap.size, 0, none⟩ 1 1 [.int .u8 27] rfl rfl (World.news_of_block (cs := #[_]) (heap_alloc_new _ _)) (by intro u hu; simp at hu; subst hu; rfl) (by decide) (by unfold maxLen; omega) (by omega) (by rw [size_alloc]; omega) _ rfl ?_; intro g1 q1 w1 hown1 hgrow1 hat1 _; have HB1 : Hid (Below H wr w1) := ((Below.refl H wr).alloc hH _).grown hgrow1 (by rw [size_alloc]; omega) (fun q hq => (HO.out.lt q hq).1); have HO1 := Lib.hid hown1; clear hown1 hgrow1 hat1) | (at_builtin; refine wpList_append_lies _ rfl (.tmp 17) (.tmp 21) 23 rfl H 5 i5 _ 1 1 Tryd.underlying23 hi hz0 hz1 hz2 rfl (by decide) _ (es.length + 1) (vals es ++ [.int .u8 27]) rfl (HO1.out.alloc _) ⟨w1.heap.size, 0, none⟩ 1 1 [.int .u8 m] rfl rfl (World.news_of_block (cs := #[_]) (heap_alloc_new _ _)) (by intro u hu; simp at hu; subst hu; rfl) (by decide) (by unfold maxLen; omega) (by omega) (by rw [size_alloc]; have h1 := HB1.out.size; omega) _ rfl ?_; intro g2 q2 w2 hown2 hgrow2 hat2 _; have HB2 : Hid (Below H w1 w2) := ((Below.refl H w1).alloc (Nat.le_trans hH HB1.out.size) _).grown hgrow2 (by rw [size_alloc]; have h1 := HB1.out.size; omega) (fun q hq => (HO1.out.lt q hq).1); have HO2 := Lib.hid hown2; clear hown2 hgrow2 hat2))
        go_roundw
        case rel =>
          have hec : escL [c] = [27, c] := by show (if isMark c = true then 27 :: c :: escL [] else c :: escL []) = _; rw [if_pos HB.out.symm]; rfl
          refine ⟨i + 1, _, es ++ [27, c], by go_num, rfl, by omega, by simp; omega, ?_, (HBr.out.trans HB1.out).trans HB2.out, ?_⟩
          · show _ = _
            rw [HTK.out, ← HES.out, hec]
          · have h2 := HO2.out
            rw [List.append_assoc, HMC.out] at h2
            rw [vals_cat, List.length_append]
            exact h2
        case measure => simp [intOf]; omega
      | false =>
        go_wp2_with fail
        refine (HC.out _).mono ?_
        rintro e w' ⟨rfl, rfl⟩
        dsimp only
        go_wp2_with (at_builtin; refine wpList_append_lies _ rfl (.tmp 17) (.tmp 21) 23 rfl H 5 i5 _ 1 1 Tryd.underlying23 hi hz0 hz1 hz2 rfl (by decide) _ es.length (vals es) rfl (HO.out.alloc _) ⟨wr.heap.size, 0, none⟩ 1 1 [.int .u8 m] rfl rfl (World.news_of_block (cs := #[_]) (heap_alloc_new _ _)) (by intro u hu; simp at hu; subst hu; rfl) (by decide) (by unfold maxLen; omega) (by omega) (by rw [size_alloc]; omega) _ rfl ?_; intro g2 q2 w2 hown2 hgrow2 hat2 _; have HB2 : Hid (Below H wr w2) := ((Below.refl H wr).alloc hH _).grown hgrow2 (by rw [size_alloc]; omega) (fun q hq => (HO.out.lt q hq).1); have HO2 := Lib.hid hown2; clear hown2 hgrow2 hat2)
        go_roundw
        case rel =>
          have hec : escL [c] = [c] := by show (if isMark c = true then 27 :: c :: escL [] else c :: escL []) = _; rw [if_neg (by rw [← HB.out]; simp)]; rfl
          refine ⟨i + 1, _, es ++ [c], by go_num, rfl, by omega, by simp; omega, ?_, HBr.out.trans HB2.out, ?_⟩
          · show _ = _
            rw [HTK.out, ← HES.out, hec]
          · have h2 := HO2.out
            rw [HMC.out] at h2
            rw [vals_cat, List.length_append]
            exact h2
        case measure => simp [intOf]; omega
    · have hE : es = escL s.data.toList := by
        have := HES.out
        rwa [List.take_of_length_le (by rw [← HM.out]; omega)] at this
      have HE := Lib.hid hE
      have hcv : (convert 23 9 vo).run Tryd.prog wr = .ok (.string (S es)) wr := by
        rcases HO.out.2 with ⟨h1, h0⟩ | ⟨g, cap, cur, h1, _⟩
        · rw [h1, List.eq_nil_of_length_eq_zero h0]
          exact run_convert_bytes_nil (P := Tryd.prog) wr 23 5 Tryd.underlying23 Tryd.underlying5 0 0 9 Tryd.underlying9
        · have ho := HO.out
          rw [h1] at ho ⊢
          exact conv_str (Rd.of_owns ho) es.length cap rfl
      obtain ⟨q3, n3, c3, rfl⟩ : ∃ q3 n3 c3, vo = .slice q3 n3 c3 := by
        rcases HO.out.2 with ⟨h1, _⟩ | ⟨g, cap, cur, h1, _⟩
        · exact ⟨_, _, _, h1⟩
        · exact ⟨_, _, _, h1⟩
      clear hE
      go_wp2_with fail
      go_ret
      rw [HE.out] 
      exact ⟨rfl, by rw [← HHH.out]; exact HBr.out⟩

end Go.Proofs.YtdljobmhnnegiaaDoor
