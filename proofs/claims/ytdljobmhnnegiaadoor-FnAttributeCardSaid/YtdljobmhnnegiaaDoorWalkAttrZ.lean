/- The walk of FnAttribute (function 6). -/
import Derived.Test.YtdljobmhnnegiaaDoorFramesZ
namespace Go.Proofs.YtdljobmhnnegiaaDoor
open Go.RowKit

set_option maxRecDepth 100000 in
set_option maxHeartbeats 16000000 in
theorem walk_attr (a0 a1 a2 : ByteArray) (W : World) (hG : G5 W) :
    Calls Tryd.prog 6 #[.string a0, .string a1, .string a2] W fun e W' => e = .returned (.bool true) ∧ Below W.heap.size W W' := by
  have HG := Lib.hid hG
  have HW : Hid (∀ w', Below W.heap.size W w' → Calls Tryd.prog 22 #[] w' fun e w'' => e = .returned (.bool true) ∧ Below w'.heap.size w' w'') := fun w' hb => works_any (HG.out.below hb)
  clear hG
  by_cases hb0 : 2147483647 < a0.size
  · go_enter Tryd.func6, Tryd.ntmps6
    go_wp2
    go_ret
    exact ⟨rfl, Below.refl _ _⟩
  by_cases hb1 : 2147483647 < a1.size
  · go_enter Tryd.func6, Tryd.ntmps6
    go_wp2
    go_ret
    exact ⟨rfl, Below.refl _ _⟩
  by_cases hb2 : 2147483647 < a2.size
  · go_enter Tryd.func6, Tryd.ntmps6
    go_wp2
    go_ret
    exact ⟨rfl, Below.refl _ _⟩
  have hl0 : a0.data.toList.length = a0.size := Array.length_toList
  have hl1 : a1.data.toList.length = a1.size := Array.length_toList
  have hl2 : a2.data.toList.length = a2.size := Array.length_toList
  have HL0 := Lib.hid hl0
  have HL1 := Lib.hid hl1
  have HL2 := Lib.hid hl2
  have HP : Hid (∀ (fr : Nat × Nat) (O : Obj), Calls Tryd.prog 21 #[.agg #[.string a0, .int .i64 0, .slice (some ⟨W.heap.size, 0, none⟩) 2 2]] ((W.alloc (.cells #[.string ((⟨#[120]⟩ : ByteArray) ++ a1), .string ((⟨#[120]⟩ : ByteArray) ++ a2)] 9 fr)).alloc O) (ProperPost a0.data.toList 0 [120 :: a1.data.toList, 120 :: a2.data.toList] ((W.alloc (.cells #[.string ((⟨#[120]⟩ : ByteArray) ++ a1), .string ((⟨#[120]⟩ : ByteArray) ++ a2)] 9 fr)).alloc O))) := fun fr O =>
    properB_any a0 0 _ [120 :: a1.data.toList, 120 :: a2.data.toList] _ (sc_two W _ _ _ _ (by simp) (by simp) fr O) (by omega) (by simp) (fun l h => by
      rcases List.mem_cons.1 h with rfl | h
      · rw [List.length_cons]; omega
      · rw [List.mem_singleton] at h; subst h; rw [List.length_cons]; omega)
  have HP2 : Hid (∀ w, Calls Tryd.prog 21 #[.agg #[.string a1, .int .i64 0, .slice none 0 0]] w (ProperPost a1.data.toList 0 [] w)) := fun w => proper_any a1 0 _ [] w (SC.nil w) (by omega) (by simp) (fun l h => by simp at h)
  have HBW : Hid (∀ (fr : Nat × Nat) (O : Obj), Below W.heap.size W ((W.alloc (.cells #[.string ((⟨#[120]⟩ : ByteArray) ++ a1), .string ((⟨#[120]⟩ : ByteArray) ++ a2)] 9 fr)).alloc O)) := fun fr O => ((Below.refl _ W).alloc (Nat.le_refl _) _).alloc (by rw [size_alloc]; omega) _
  have q1 : ¬ 9223372036854775807 < 1 + a1.size := by omega
  have q2 : ¬ 9223372036854775807 < 1 + a2.size := by omega
  clear hl0 hl1 hl2
  go_enter Tryd.func6, Tryd.ntmps6
  go_wp2_with fail
  refine (HP.out _ _).mono ?_
  rintro e w1 ⟨b, rfl, hbp, hb1⟩
  have HB1 : Hid (Below W.heap.size W w1) := (HBW.out _ _).trans (hb1.mono (HBW.out _ _).size)
  have HPF := Lib.hid hbp
  have HW1 := Lib.hid (HW.out w1 HB1.out)
  clear hbp
  clear hb1
  cases b with
  | false =>
    dsimp only
    go_wp2_with fail
    refine HW1.out.mono ?_
    rintro e wz ⟨rfl, hb⟩
    go_wp2_with fail
    go_ret
    exact ⟨rfl, HB1.out.trans (hb.mono HB1.out.size)⟩
  | true =>
  have HPR := Lib.hid (HPF.out (by trivial))
  by_cases hnea1 : a1.data.toList = []
  · have e1 : a1.toList = [] := by rw [ByteArray.toList_eq]; exact hnea1
    have HE := Lib.hid hnea1
    clear hnea1
    dsimp only
    go_wp2_with fail
    refine HW1.out.mono ?_
    rintro e wz ⟨rfl, hb⟩
    go_wp2_with fail
    go_ret
    exact ⟨rfl, HB1.out.trans (hb.mono HB1.out.size)⟩
  have a1n1 : ¬ a1.toList = [] := by rw [ByteArray.toList_eq]; exact hnea1
  have a1n2 : a1.toList.isEmpty = false := by cases h : a1.toList with | nil => exact absurd h a1n1 | cons a b => rfl
  have HN1 := Lib.hid hnea1
  have a1p : 0 < a1.size := by
    rcases Nat.eq_zero_or_pos a1.size with h | h
    · exact absurd (List.eq_nil_of_length_eq_zero (by rw [HL1.out]; exact h)) hnea1
    · exact h
  clear hnea1
  by_cases hnea2 : a2.data.toList = []
  · have e1 : a2.toList = [] := by rw [ByteArray.toList_eq]; exact hnea2
    have HE := Lib.hid hnea2
    clear hnea2
    dsimp only
    go_wp2_with fail
    refine HW1.out.mono ?_
    rintro e wz ⟨rfl, hb⟩
    go_wp2_with fail
    go_ret
    exact ⟨rfl, HB1.out.trans (hb.mono HB1.out.size)⟩
  have a2n1 : ¬ a2.toList = [] := by rw [ByteArray.toList_eq]; exact hnea2
  have a2n2 : a2.toList.isEmpty = false := by cases h : a2.toList with | nil => exact absurd h a2n1 | cons a b => rfl
  have HN2 := Lib.hid hnea2
  have a2p : 0 < a2.size := by
    rcases Nat.eq_zero_or_pos a2.size with h | h
    · exact absurd (List.eq_nil_of_length_eq_zero (by rw [HL2.out]; exact h)) hnea2
    · exact h
  clear hnea2
  obtain ⟨m0, hm0⟩ : ∃ m0, m0 = (a2[0]'a2p).toNat := ⟨_, rfl⟩
  have hms0 : ((a2[0]'a2p).toNat : Int) = (m0 : Int) := by rw [hm0]
  clear hm0
  by_cases h32 : m0 = 32
  · have hb : ((m0 : Int) == 32) = true := by simp [h32]
    clear h32
    dsimp only
    go_wp2_with fail
    refine HW1.out.mono ?_
    rintro e wz ⟨rfl, hb⟩
    go_wp2_with fail
    go_ret
    exact ⟨rfl, HB1.out.trans (hb.mono HB1.out.size)⟩
  have c0 : ((m0 : Int) == 32) = false := by simp; omega
  have hlt : a2.size - 1 < a2.size := by omega
  obtain ⟨ml, hml⟩ : ∃ ml, ml = (a2[a2.size - 1]'hlt).toNat := ⟨_, rfl⟩
  have hmsl : ((a2[a2.size - 1]'hlt).toNat : Int) = (ml : Int) := by rw [hml]
  have HML := Lib.hid hml
  have l1 : (0 : Int) ≤ (a2.size : Int) - 1 := by omega
  have l2 : (a2.size : Int) - 1 < (a2.size : Int) := by omega
  have l3 : ((a2.size : Int) - 1).toNat = a2.size - 1 := by omega
  clear hml h32
  by_cases h32 : ml = 32
  · have hb : ((ml : Int) == 32) = true := by simp [h32]
    clear h32
    dsimp only
    go_wp2_with fail
    refine HW1.out.mono ?_
    rintro e wz ⟨rfl, hb⟩
    go_wp2_with fail
    go_ret
    exact ⟨rfl, HB1.out.trans (hb.mono HB1.out.size)⟩
  have c1 : ((ml : Int) == 32) = false := by simp; omega
  have HLAST : Hid (a2.data.toList.getLast? ≠ some 32) := last_of a2p (by rw [← HML.out]; exact h32)
  clear h32
  dsimp only
  go_wp2_with fail
  refine (HP2.out _).mono ?_
  rintro e w2 ⟨b, rfl, hbp, hb2⟩
  have HB2 : Hid (Below W.heap.size W w2) := HB1.out.trans (hb2.mono HB1.out.size)
  have HPF2 := Lib.hid hbp
  have HW2 := Lib.hid (HW.out w2 HB2.out)
  clear hbp hb2
  cases b with
  | false =>
    dsimp only
    go_wp2_with fail
    refine HW2.out.mono ?_
    rintro e wz ⟨rfl, hb⟩
    go_wp2_with fail
    go_ret
    exact ⟨rfl, HB2.out.trans (hb.mono HB2.out.size)⟩
  | true =>
  have HPR2 := Lib.hid (HPF2.out (by trivial))
  have s1 : a1.size ≤ 50 := by have h1 := HPR2.out.len; have h2 := HL1.out; omega
  have s2 : a2.size ≤ 100 := by have h1 := (line_x (HPR.out.lines (120 :: a2.data.toList) (by simp))).2; have h2 := HL2.out; omega
  have s0 : a0.size ≤ 50 := by have h1 := HPR.out.len; have h2 := HL0.out; omega
  have z1 : ¬ 9223372036854775807 < 11 + a0.size := by omega
  have z2 : ¬ 9223372036854775807 < 11 + a0.size + 12 := by omega
  have z3 : ¬ 9223372036854775807 < 11 + a0.size + 12 + a0.size := by omega
  have z4 : ¬ 9223372036854775807 < 11 + a0.size + 12 + a0.size + 1 := by omega
  have z5 : ¬ 9223372036854775807 < 11 + a0.size + 12 + a0.size + 1 + a1.size := by omega
  have z6 : ¬ 9223372036854775807 < 11 + a0.size + 12 + a0.size + 1 + a1.size + 1 := by omega
  have z7 : ¬ 9223372036854775807 < 11 + a0.size + 12 + a0.size + 1 + a1.size + 1 + a2.size := by omega
  have z8 : ¬ 9223372036854775807 < 11 + a0.size + 12 + a0.size + 1 + a1.size + 1 + a2.size + 1 := by omega
  obtain ⟨sx, hsx⟩ : ∃ sx, sx = (⟨#[22, 61, 61, 61, 32, 82, 85, 78, 32, 32, 32]⟩ : ByteArray) ++ a0 ++ (⟨#[10, 22, 61, 61, 61, 32, 65, 84, 84, 82, 32, 32]⟩ : ByteArray) ++ a0 ++ (⟨#[32]⟩ : ByteArray) ++ a1 ++ (⟨#[32]⟩ : ByteArray) ++ a2 ++ (⟨#[10]⟩ : ByteArray) := ⟨_, rfl⟩
  have hconv := fun (w : World) => run_bytes_of_string (P := Tryd.prog) w 9 23 5 sx Tryd.underlying9 Tryd.underlying23 Tryd.underlying5
  have hsz0 : sx.size = 11 + a0.size + 12 + a0.size + 1 + a1.size + 1 + a2.size + 1 := by rw [hsx]; simp only [ByteArray.size_append]; rfl
  have hsz : sx.size ≤ 500000 := by omega
  have HSX : Hid (sx.data.toList = lineRun a0.data.toList ++ 22 :: (attrB a0.data.toList a1.data.toList a2.data.toList ++ [10])) := by
    show _ = _
    rw [hsx]
    simp [lineRun, tRun, attrB]
  rw [hsx] at hconv
  dsimp only
  go_wp2_with fail
  rw [← hsx, ← hsz0]
  clear hsx hsz0 hconv z1 z2 z3 z4 z5 z6 z7 z8
  refine (one_callD HG.out HB2.out sx hsz (grownCap w2 sx.size 0 5) (grownCap_ge _ _ _ _) _ _ 1 [] true).mono ?_
  rintro e w4 ⟨evs, v4, rfl, hevs, hat, hb4⟩
  rw [HSX.out, attr_law a0.data.toList a1.data.toList a2.data.toList (alnum_of HPR.out) HPR.out.ne HPR.out.len (alnum_of HPR2.out) HPR2.out.len (line_x (HPR.out.lines _ (by simp))).1 HN2.out (line_x (HPR.out.lines (120 :: a2.data.toList) (by simp))).2 HLAST.out] at hevs
  obtain ⟨p4, c4, rfl, hf⟩ := hat.form
  obtain ⟨g4, rfl, hlc⟩ := hf (by rw [hevs]; simp)
  have hlen : evs.length = 6 := by rw [hevs]; rfl
  have HAT := Lib.hid hat
  have HB4 := Lib.hid hb4
  have HEV := Lib.hid hevs
  have HN := Lib.hid hlen
  rw [hlen] at hlc ⊢
  have HSIX : Hid (∀ (i : Nat) (e : Ev), evs[i]? = some e → (i = 3 → e = attrE a0.data.toList a1.data.toList a2.data.toList) ∧ (i ≠ 3 → e.action ≠ tAttr)) := by
    rw [hevs]
    exact six_at (by decide) (by show trun ≠ tAttr; decide) (by show tOut ≠ tAttr; decide) (by show tOut ≠ tAttr; decide) (by show tpass ≠ tAttr; decide)
  have HCELL : Hid (∀ w', Below w4.heap.size w4 w' → ∀ i, i < 6 → ∃ (e : Ev) (pv : Option Addr) (nv cv : Nat), Hid (evs[i]? = some e) ∧ CellsE w' g4 i [112] e pv nv cv) := by
    intro w' hb i hi
    have h1 := HAT.out.below hb
    rw [HN.out] at h1
    exact h1.at HN.out.symm i hi
  clear hat hf hevs hb4 hlen
  dsimp only
  go_wp2_with fail
  go_loopw [8, 78] (fun v8 v78 wr => ∃ (i f : Nat), v78 = .int .i64 i ∧ v8 = .int .i64 f ∧ i ≤ 6 ∧ f ≤ 1 ∧ Hid (f = if 3 < i then 1 else 0) ∧ Hid (Below w4.heap.size w4 wr)) (fun _ v78 _ => 6 - (intOf v78).toNat)
  case atStart => exact ⟨0, 0, rfl, rfl, Nat.zero_le _, Nat.zero_le _, rfl, Below.refl _ _⟩
  case round =>
    obtain ⟨i, f, rfl, rfl, hin, hf1, HF, HBr⟩ := hrel
    by_cases hlt6 : i < 6
    · obtain ⟨e, pv, nv, cv, he, hcell⟩ := HCELL.out wr HBr.out i hlt6
      have hsix := HSIX.out i e he.out
      have hi6 : (i : Int) < 6 := by omega
      by_cases hi3 : i = 3
      · have he2 := hsix.1 hi3
        subst he2
        obtain ⟨d0, d1, d2, d3, d4, d5, d6, d7, d8, _⟩ := hcell
        have hf0 : f = 0 := by have := HF.out; rw [if_neg (by omega)] at this; exact this
        subst hf0
        have HI3 := Lib.hid hi3
        have t0 : ((S tAttr).data.toList == [97, 116, 116, 114]) = true := by decide
        have x0 : S a0.data.toList = a0 := rfl
        have x1 : S a1.data.toList = a1 := rfl
        have x2 : S a2.data.toList = a2 := rfl
        simp only [attrE, Ev.of] at d0 d1 d2 d3 d4 d5 d6 d7 d8
        rw [x0] at d2
        rw [x1] at d6
        rw [x2] at d7
        clear hsix he hi3 x0 x1 x2
        go_wp2_with fail
        go_roundw
        case rel => exact ⟨i + 1, 1, by go_num, rfl, by omega, Nat.le_refl _, by show _ = _; rw [if_pos (by have := HI3.out; omega)], HBr.out.alloc HBr.out.size _⟩
        case measure => simp [intOf]; omega
      · have hact := hsix.2 hi3
        have t0 : ((S e.action).data.toList == [97, 116, 116, 114]) = false := by show (e.action == tAttr) = false; rw [beq_eq_false_iff_ne]; exact hact
        obtain ⟨d0, d1, d2, d3, d4, d5, d6, d7, d8, _⟩ := hcell
        have HF2 : Hid (f = if 3 < i + 1 then 1 else 0) := by
          show _ = _
          rw [HF.out]
          by_cases h3 : 3 < i
          · rw [if_pos h3, if_pos (by omega)]
          · rw [if_neg h3, if_neg (by omega)]
        clear hsix he hi3 hact
        go_wp2_with fail
        go_roundw
        case rel => exact ⟨i + 1, f, by go_num, rfl, by omega, hf1, HF2.out, HBr.out.alloc HBr.out.size _⟩
        case measure => simp [intOf]; omega
    · have hf2 : f = 1 := by have := HF.out; rw [if_pos (by omega)] at this; exact this
      subst hf2
      have hb5 : Below W.heap.size W wr := HB4.out.trans (HBr.out.mono HB4.out.size)
      have HB5 := Lib.hid hb5
      have hwr := HW.out wr hb5
      clear hb5
      have ni : ¬ (i : Int) < 6 := by omega
      go_wp2_with fail
      refine hwr.mono ?_
      rintro e w6 ⟨rfl, hb6⟩
      go_wp2_with fail
      go_ret
      exact ⟨rfl, HB5.out.trans (hb6.mono HB5.out.size)⟩

end Go.Proofs.YtdljobmhnnegiaaDoor
