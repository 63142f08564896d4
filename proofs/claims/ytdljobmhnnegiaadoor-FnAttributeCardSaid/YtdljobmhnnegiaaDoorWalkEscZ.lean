/- The walk of FnEscaped (function 8). -/
import Derived.Test.YtdljobmhnnegiaaDoorEscapedZ
import Derived.Test.YtdljobmhnnegiaaDoorZ6
import Derived.Test.YtdljobmhnnegiaaDoorZ5
namespace Go.Proofs.YtdljobmhnnegiaaDoor
open Go.RowKit

theorem alnum_of {n : List UInt8} {k : Int} {ls : List (List UInt8)} (h : PropF n k ls) : Alnum n := fun c hc => by
  have h1 := h.plain c hc
  have h2 := h.noBlank c hc
  have h3 : c.toNat ≠ 32 := fun hh => h2 (UInt8.toNat_inj.1 hh)
  unfold plainN at h1
  omega

set_option maxRecDepth 100000 in
set_option maxHeartbeats 16000000 in
theorem walk_esc (a0 a1 : ByteArray) (W : World) (hG : G5 W) :
    Calls Tryd.prog 8 #[.string a0, .string a1] W fun e W' => e = .returned (.bool true) ∧ Below W.heap.size W W' := by
  have HG := Lib.hid hG
  have HW : Hid (∀ w', Below W.heap.size W w' → Calls Tryd.prog 22 #[] w' fun e w'' => e = .returned (.bool true) ∧ Below w'.heap.size w' w'') := fun w' hb => works_any (HG.out.below hb)
  clear hG
  by_cases hb1 : 2147483647 < a0.size
  · go_enter Tryd.func8, Tryd.ntmps8
    go_wp2
    go_ret
    exact ⟨rfl, Below.refl _ _⟩
  by_cases hb2 : 2147483647 < a1.size
  · go_enter Tryd.func8, Tryd.ntmps8
    go_wp2
    go_ret
    exact ⟨rfl, Below.refl _ _⟩
  have HP : Hid (Calls Tryd.prog 21 #[.agg #[.string a0, .int .i64 0, .slice none 0 0]] W (ProperPost a0.data.toList 0 [] W)) := proper_any a0 0 _ [] W (SC.nil W) (by omega) (by simp) (fun l h => by simp at h)
  have HV : Hid (∀ w, Calls Tryd.prog 16 #[.string a1] w fun e w' => e = .returned (.bool (vldB a1)) ∧ Below w.heap.size w w') := fun w => (valid_any a1 w).mono fun e w' h => ⟨h.1, by obtain ⟨p, rfl⟩ := h.2; exact (Below.refl _ w).alloc (Nat.le_refl _) _⟩
  obtain ⟨bv, hbv⟩ : ∃ bv, bv = vldB a1 := ⟨_, rfl⟩
  rw [← hbv] at HV
  clear hbv
  obtain ⟨bm, hbm⟩ : ∃ bm, bm = markedB a0.data.toList := ⟨_, rfl⟩
  have HM : Hid (∀ w, Calls Tryd.prog 17 #[.string a0] w fun e w' => e = .returned (.bool bm) ∧ w = w') := fun w => by rw [hbm]; exact marked_any a0 w (by omega)
  clear hbm
  go_enter Tryd.func8, Tryd.ntmps8
  go_wp2_with fail
  refine HP.out.mono ?_
  rintro e w1 ⟨b, rfl, hbp, hb1⟩
  have HB1 := Lib.hid hb1
  have HPF := Lib.hid hbp
  have HW1 := Lib.hid (HW.out w1 hb1)
  clear hb1 hbp
  cases b with
  | false =>
    dsimp only
    go_wp2_with fail
    refine HW1.out.mono ?_
    rintro e w2 ⟨rfl, hb⟩
    go_wp2_with fail
    go_ret
    exact ⟨rfl, HB1.out.trans (hb.mono HB1.out.size)⟩
  | true =>
  by_cases h500 : (500 : Int) < (a1.size : Int)
  · dsimp only
    go_wp2_with fail
    refine HW1.out.mono ?_
    rintro e w2 ⟨rfl, hb⟩
    go_wp2_with fail
    go_ret
    exact ⟨rfl, HB1.out.trans (hb.mono HB1.out.size)⟩
  dsimp only
  go_wp2_with fail
  refine (HV.out _).mono ?_
  rintro e w2 ⟨rfl, hb2'⟩
  have HB2 : Hid (Below W.heap.size W w2) := HB1.out.trans (hb2'.mono HB1.out.size)
  have HW2 := Lib.hid (HW.out w2 HB2.out)
  clear hb2'
  cases bv with
  | false =>
    dsimp only
    go_wp2_with fail
    refine HW2.out.mono ?_
    rintro e w3 ⟨rfl, hb⟩
    go_wp2_with fail
    go_ret
    exact ⟨rfl, HB2.out.trans (hb.mono HB2.out.size)⟩
  | true =>
  dsimp only
  go_wp2_with fail
  refine (HM.out _).mono ?_
  rintro e w' ⟨rfl, rfl⟩
  cases bm with
  | true =>
    dsimp only
    go_wp2_with fail
    refine HW2.out.mono ?_
    rintro e w3 ⟨rfl, hb⟩
    go_wp2_with fail
    go_ret
    exact ⟨rfl, HB2.out.trans (hb.mono HB2.out.size)⟩
  | false =>
  have HPR := Lib.hid (HPF.out (by trivial))
  obtain ⟨M, hM⟩ : ∃ M, M = a1.size := ⟨_, rfl⟩
  have HMM : Hid (M = a1.data.toList.length) := by show _ = _; rw [hM]; simp
  have hM2 : ((a1.size : Nat) : Int) = (M : Int) := by rw [hM]
  have HM2 := Lib.hid hM
  dsimp only
  go_wp2_with fail
  go_loop [36] (fun v36 => ∃ i : Nat, i ≤ M ∧ v36 = .int .i64 i ∧ Hid (10 ∉ a1.data.toList.take i)) (fun i => M - (intOf i).toNat)
  case atStart => exact ⟨0, Nat.zero_le _, rfl, by show _ ∉ _; simp⟩
  case round =>
    obtain ⟨i, hi, rfl, HA⟩ := hrel
    by_cases hltM : i < M
    · have hlt : i < a1.size := by omega
      have hll : i < a1.data.toList.length := by simpa using hlt
      have e : a1.data.toList[i] = a1[i]'hlt := rfl
      obtain ⟨m, hm⟩ : ∃ m, m = (a1[i]'hlt).toNat := ⟨_, rfl⟩
      have hms : ((a1[i]'hlt).toNat : Int) = (m : Int) := by rw [hm]
      have HMM2 := Lib.hid hm
      clear hm
      by_cases h10 : m = 10
      · have c1 : ((m : Int) == 10) = true := by simp [h10]
        clear h10
        go_wp2_with fail
        refine HW2.out.mono ?_
        rintro e w3 ⟨rfl, hb⟩
        go_wp2_with fail
        go_ret
        exact ⟨rfl, HB2.out.trans (hb.mono HB2.out.size)⟩
      have c1 : ((m : Int) == 10) = false := by simp; omega
      by_cases h13 : m = 13
      · have c2 : ((m : Int) == 13) = true := by simp [h13]
        clear h13
        go_wp2_with fail
        refine HW2.out.mono ?_
        rintro e w3 ⟨rfl, hb⟩
        go_wp2_with fail
        go_ret
        exact ⟨rfl, HB2.out.trans (hb.mono HB2.out.size)⟩
      have c2 : ((m : Int) == 13) = false := by simp; omega
      have HA2 : Hid (10 ∉ a1.data.toList.take (i + 1)) := by
        show _ ∉ _
        rw [List.take_succ_eq_append_getElem hll]
        intro hh
        rcases List.mem_append.1 hh with hh | hh
        · exact HA.out hh
        · rw [List.mem_singleton, e] at hh
          exact h10 (by rw [HMM2.out, ← hh]; rfl)
      clear h10 h13
      go_wp2_with fail
      go_round
      case rel => exact ⟨i + 1, by omega, by go_num, HA2.out⟩
      case measure => simp [intOf]; omega
    · have HN10 : Hid (10 ∉ a1.data.toList) := by
        have := HA.out
        rwa [List.take_of_length_le (by rw [← HMM.out]; omega)] at this
      have hn50 : a0.size ≤ 50 := by have h1 := HPR.out.len; have h2 : a0.data.toList.length = a0.size := Array.length_toList; omega
      have hel := escL_len a1.data.toList
      rw [← HMM.out] at hel
      have hes : (S (escL a1.data.toList)).size ≤ 1000 := by rw [S_size]; omega
      have HES := Lib.hid (escaped_any a1 w2 (by omega))
      obtain ⟨x, hx⟩ : ∃ x, x = S (escL a1.data.toList) := ⟨_, rfl⟩
      rw [← hx] at HES hes
      have HX := Lib.hid hx
      have e1 : ¬ 9223372036854775807 < 11 + a0.size := by omega
      have e2 : ¬ 9223372036854775807 < 11 + a0.size + 1 := by omega
      have e3 : ¬ 9223372036854775807 < 11 + a0.size + 1 + 1 := by omega
      have e4 : ¬ 9223372036854775807 < 11 + a0.size + 1 + 1 + x.size := by omega
      have e5 : ¬ 9223372036854775807 < 11 + a0.size + 1 + 1 + x.size + 1 := by omega
      have f1 : ¬ 9223372036854775807 < 10 + a0.size := by omega
      have f2 : ¬ 9223372036854775807 < 10 + a0.size + 1 := by omega
      have f3 : ¬ 9223372036854775807 < 10 + a0.size + 1 + 1 := by omega
      have f4 : ¬ 9223372036854775807 < 10 + a0.size + 1 + 1 + a1.size := by omega
      have f5 : ¬ 9223372036854775807 < 10 + a0.size + 1 + 1 + a1.size + 1 := by omega
      have f4' : ¬ 9223372036854775807 < 10 + a0.size + 1 + 1 + M := by omega
      have f5' : ¬ 9223372036854775807 < 10 + a0.size + 1 + 1 + M + 1 := by omega
      clear hx hel
      go_wp2_with fail
      refine HES.out.mono ?_
      rintro e w3 ⟨rfl, hb3⟩
      have HB3 : Hid (Below W.heap.size W w3) := HB2.out.trans (hb3.mono HB2.out.size)
      clear hb3
      obtain ⟨sx, hsx⟩ : ∃ sx, sx = (⟨#[22, 61, 61, 61, 32, 82, 85, 78, 32, 32, 32]⟩ : ByteArray) ++ a0 ++ (⟨#[10]⟩ : ByteArray) ++ (⟨#[120]⟩ : ByteArray) ++ x ++ (⟨#[10]⟩ : ByteArray) := ⟨_, rfl⟩
      have hconv := fun (w : World) => run_bytes_of_string (P := Tryd.prog) w 9 23 5 sx Tryd.underlying9 Tryd.underlying23 Tryd.underlying5
      have hsz : sx.size ≤ 500000 := by
        rw [hsx]
        simp only [ByteArray.size_append]
        show 11 + a0.size + 1 + 1 + x.size + 1 ≤ _
        omega
      have HSX : Hid (sx.data.toList = lineRun a0.data.toList ++ 120 :: (escL a1.data.toList ++ [10])) := by
        show _ = _
        rw [hsx, HX.out]
        simp [lineRun, tRun]
      dsimp only
      rw [hsx] at hconv
      go_wp2_with fail
      have hsz0 : sx.size = 11 + a0.size + 1 + 1 + x.size + 1 := by rw [hsx]; simp only [ByteArray.size_append]; rfl
      rw [← hsx, ← hsz0]
      clear hsx hsz0 hconv e1 e2 e3 e4 e5
      refine (one_callD HG.out HB3.out sx hsz (grownCap w3 sx.size 0 5) (grownCap_ge _ _ _ _) _ _ 1 [] true).mono ?_
      rintro e w4 ⟨evs, v4, rfl, hevs, hat, hb4⟩
      rw [HSX.out] at hevs
      have hou := esc_outs a0.data.toList a1.data.toList (alnum_of HPR.out) HPR.out.ne HPR.out.len HN10.out (by rw [← HMM.out]; omega)
      rw [← hevs] at hou
      obtain ⟨p4, c4, rfl, hf⟩ := hat.form
      obtain ⟨q, hq⟩ := convF_head [lineRun a0.data.toList ++ 120 :: (escL a1.data.toList ++ [10])] 1 [] true
      obtain ⟨g4, rfl, hlc⟩ := hf (by rw [hevs, hq]; simp)
      have ho := outputs_any hat rfl hlc (by rw [hou]; have h1 := HPR.out.len; have h2 := HMM.out; simp [tRun] at h1 h2 ⊢; omega)
      have hy : S (outsL evs) = (⟨#[61, 61, 61, 32, 82, 85, 78, 32, 32, 32]⟩ : ByteArray) ++ a0 ++ (⟨#[10]⟩ : ByteArray) ++ (⟨#[120]⟩ : ByteArray) ++ a1 ++ (⟨#[10]⟩ : ByteArray) := by
        symm
        refine eq_S ?_
        rw [hou]
        simp [tRun]
      rw [hy] at ho
      have HO := Lib.hid ho
      have HB4 := Lib.hid hb4
      obtain ⟨n, hn⟩ : ∃ n, n = evs.length := ⟨_, rfl⟩
      rw [← hn] at hlc HO ⊢
      clear hat hf hevs hq hou ho hb4 hn hy hsz hes
      dsimp only
      go_wp2_with fail
      refine HO.out.mono ?_
      rintro e w5 ⟨rfl, hb5⟩
      have HB5 : Hid (Below W.heap.size W w5) := HB4.out.trans (hb5.mono HB4.out.size)
      have HW5 := Lib.hid (HW.out w5 HB5.out)
      clear hb5
      dsimp only
      go_wp2_with fail
      refine HW5.out.mono ?_
      rintro e w6 ⟨rfl, hb6⟩
      go_wp2_with fail
      go_ret
      exact ⟨rfl, HB5.out.trans (hb6.mono HB5.out.size)⟩

end Go.Proofs.YtdljobmhnnegiaaDoor
