/- The walk of FnFailedBuild (function 9). -/
import Derived.Test.YtdljobmhnnegiaaDoorStoryZ
import Derived.Test.YtdljobmhnnegiaaDoorZ5
import Derived.Test.YtdljobmhnnegiaaDoorOneCallZ
import Derived.Test.YtdljobmhnnegiaaDoorFbLawZ
namespace Go.Proofs.YtdljobmhnnegiaaDoor
open Go.RowKit

/-- Behind the tests. -/
theorem tests_call {W : World} {nv kv lv : Value} {ns : List (List UInt8)} {ks : List Int} {ls : List (List (List UInt8))} (hn : SC W nv ns) (hk : IC W kv ks) (hl : SSC W lv ls) (hf : Fit1 ns) (hk1 : ks.length ≤ 2147483647) (hl1 : Fit2 ls) :
    Calls Tryd.prog 28 #[nv, kv, lv] W (TestsPost W) :=
  tests_any nv kv lv ns ks ls W hn hk hl hf.1 hf.2 hk1 hl1.1 (fun l h => ⟨(hl1.2 l h).1, (hl1.2 l h).2⟩)
theorem fit2_nil : Fit2 [] := ⟨by simp, fun l h => by simp at h⟩

set_option maxRecDepth 100000 in
set_option maxHeartbeats 8000000 in
theorem walk_failed (nv : Value) (ns : List (List UInt8)) (kv : Value) (ks : List Int) (a2 : ByteArray) (W : World) (hn : SC W nv ns) (hk : IC W kv ks) (hG : G5 W) :
    Calls Tryd.prog 9 #[nv, kv, .string a2] W fun e W' => e = .returned (.bool true) ∧ Below W.heap.size W W' := by
  have HG := Lib.hid hG
  have HW : Hid (∀ w', Below W.heap.size W w' → Calls Tryd.prog 22 #[] w' fun e w'' => e = .returned (.bool true) ∧ Below w'.heap.size w' w'') := fun w' hb => works_any (HG.out.below hb)
  have HN0 := Lib.hid hn
  have HK0 := Lib.hid hk
  have HF1 : Hid (Calls Tryd.prog 27 #[nv] W (FitPost (Fit1 ns) W)) := fits1_any nv ns W hn
  have HT : Hid (Fit1 ns → ks.length ≤ 2147483647 → Calls Tryd.prog 28 #[nv, kv, .slice none 0 0] W (TestsPost W)) := fun h1 h2 => tests_call hn hk (SSC.nil W) h1 h2 fit2_nil
  obtain ⟨pn, cn, rfl, hcn, _⟩ := hn
  obtain ⟨pk, ck, rfl, hck, _⟩ := hk
  obtain ⟨N, hN⟩ : ∃ N, N = ns.length := ⟨_, rfl⟩
  obtain ⟨K, hK⟩ : ∃ K, K = ks.length := ⟨_, rfl⟩
  have HKL := Lib.hid hK
  rw [← hN] at hcn HF1 HT HN0 ⊢
  rw [← hK] at hck HT HK0 ⊢
  obtain ⟨fl, hfl⟩ : ∃ fl, fl = a2.data.toList := ⟨_, rfl⟩
  have hS : a2 = S fl := by rw [hfl]
  subst hS
  clear hG hN hK hfl
  go_enter Tryd.func9, Tryd.ntmps9
  go_wp2_with fail
  refine HF1.out.mono ?_
  rintro e w' ⟨b, rfl, hb, rfl⟩
  have HB1 := Lib.hid hb
  clear hb
  cases b with
  | false =>
    dsimp only
    go_wp2_with fail
    go_ret
    exact ⟨rfl, Below.refl _ _⟩
  | true =>
  by_cases hkb : (2147483647 : Int) < (K : Int)
  · dsimp only
    go_wp2_with fail
    go_ret
    exact ⟨rfl, Below.refl _ _⟩
  by_cases hfb : (2147483647 : Int) < (fl.length : Int)
  · dsimp only
    go_wp2_with fail
    go_ret
    exact ⟨rfl, Below.refl _ _⟩
  have hfb' : ¬ 2147483647 < fl.length := by omega
  have HT2 := Lib.hid (HT.out (HB1.out (by trivial)) (by omega))
  dsimp only
  go_wp2_with fail
  refine HT2.out.mono ?_
  rintro e w1 ⟨v1, b, rfl, hb1, hts⟩
  have HW1 := Lib.hid (HW.out w1 hb1)
  cases b with
  | false =>
    clear hts
    have HBB := Lib.hid hb1
    clear hb1
    dsimp only
    go_wp2_with fail
    refine HW1.out.mono ?_
    rintro e w2 ⟨rfl, hb2⟩
    go_wp2_with fail
    go_ret
    exact ⟨rfl, HBB.out.trans (hb2.mono HBB.out.size)⟩
  | true =>
  obtain ⟨ts, htsc, hlen, hpt⟩ := hts rfl
  have HTS := Lib.hid htsc
  have HPT := Lib.hid hpt
  have hff := specFailed_any v1 ts w1 htsc hlen
  have HFF := Lib.hid hff
  obtain ⟨fb, hfb2⟩ : ∃ fb, fb = ts.any fun t => t.kind == 1 := ⟨_, rfl⟩
  rw [← hfb2] at HFF
  have HBB := Lib.hid hb1
  clear hts htsc hpt hff hfb2 hb1
  dsimp only
  go_wp2_with fail
  refine HFF.out.mono ?_
  rintro e w2 ⟨rfl, hb2⟩
  have HB2 : Hid (Below W.heap.size W w2) := HBB.out.trans (hb2.mono HBB.out.size)
  have HTS2 := Lib.hid (HTS.out.below hb2)
  have HW2 := Lib.hid (HW.out w2 HB2.out)
  clear hb2
  cases fb with
  | false =>
    dsimp only
    go_wp2_with fail
    refine HW2.out.mono ?_
    rintro e w3 ⟨rfl, hb3⟩
    go_wp2_with fail
    go_ret
    exact ⟨rfl, HB2.out.trans (hb3.mono HB2.out.size)⟩
  | true =>
  dsimp only
  go_wp2_with fail
  refine (story_any v1 ts w2 HTS2.out hlen HPT.out).mono ?_
  rintro e w3 ⟨v3, rfl, htl, hb3, _⟩
  have HB3 : Hid (Below W.heap.size W w3) := HB2.out.trans (hb3.mono HB2.out.size)
  obtain ⟨sx, hsx⟩ : ∃ sx, sx = S (storyL ts).flatten := ⟨_, rfl⟩
  have hsz : sx.size ≤ 70000 := by rw [hsx, S_size]; exact htl
  rw [← hsx]
  clear hb3 htl hsx
  have hconv := fun (w : World) => run_bytes_of_string (P := Tryd.prog) w 9 23 5 sx Tryd.underlying9 Tryd.underlying23 Tryd.underlying5
  dsimp only
  go_wp2_with fail
  refine (one_callD HG.out HB3.out sx (by omega) (grownCap w3 sx.size 0 5) (grownCap_ge _ _ _ _) _ _ 2 fl true).mono ?_
  rintro e w4 ⟨evs, v4, rfl, hevs, hat, hb4⟩
  obtain ⟨es, le, hl1, hl2, hl3⟩ := fb_law [sx.data.toList] fl
  rw [← hevs] at hl1
  obtain ⟨p4, c4, rfl, hf4⟩ := hat.form
  obtain ⟨g4, rfl, hlc⟩ := hf4 (by rw [hl1]; simp)
  have HAT := Lib.hid hat
  have HB4 := Lib.hid hb4
  obtain ⟨n, hnn⟩ : ∃ n, n = evs.length := ⟨_, rfl⟩
  have hn0 : 0 < n := by rw [hnn, hl1]; simp
  have hbig : n ≤ maxLen := by rw [hnn]; exact hat.few
  have hbig2 : n ≤ 9223372036854775807 := by unfold maxLen at hbig; omega
  have HNN := Lib.hid hnn
  have HL := Lib.hid (And.intro hl1 (And.intro hl2 hl3))
  rw [← hnn] at hlc ⊢
  have HCELL : Hid (∀ w', Below w4.heap.size w4 w' → ∀ i, i < n → ∃ (e : Ev) (pv : Option Addr) (nv cv : Nat), Hid (evs[i]? = some e) ∧ CellsE w' g4 i [112] e pv nv cv) := by
    intro w' hb i hi
    have h1 := HAT.out.below hb
    rw [← HNN.out] at h1
    exact h1.at HNN.out i hi
  clear hat hb4 hf4 hnn hl1 hl2 hl3 hevs hconv
  dsimp only
  go_wp2_with fail
  go_loopw [54] (fun v54 wr => ∃ i : Nat, v54 = .int .i64 i ∧ i ≤ n ∧ Hid (Below w4.heap.size w4 wr)) (fun v54 _ => n - (intOf v54).toNat)
  case atStart => exact ⟨0, rfl, Nat.zero_le _, Below.refl _ _⟩
  case round =>
    obtain ⟨i, rfl, hin, HBr⟩ := hrel
    by_cases hlt : i < n
    · obtain ⟨e, pv, nv, cv, he, hcell⟩ := HCELL.out wr HBr.out i hlt
      obtain ⟨d0, d1, d2, d3, d4, d5, d6, d7, d8, _⟩ := hcell
      by_cases hil : i = n - 1
      · have hfe : e.fb = fl := by
          have h1 := he.out
          rw [HL.out.1, List.getElem?_append_right (by have := HNN.out; rw [HL.out.1] at this; simp at this; omega)] at h1
          have h2 : i - es.length = 0 := by have := HNN.out; rw [HL.out.1] at this; simp at this; omega
          rw [h2] at h1
          obtain rfl : le = e := Option.some.inj h1
          exact HL.out.2.2
        rw [hfe] at d5
        have b1 : ((i : Int) == (n : Int) - 1) = true := by rw [beq_iff_eq]; omega
        clear he hfe hil
        go_wp2_with fail
        go_roundw
        case rel => exact ⟨i + 1, by go_num, by omega, HBr.out.alloc HBr.out.size _⟩
        case measure => simp [intOf]; omega
      · have hfe : e.fb = [] := by
          have h1 := he.out
          rw [HL.out.1, List.getElem?_append_left (by have := HNN.out; rw [HL.out.1] at this; simp at this; omega)] at h1
          exact HL.out.2.1 e (List.mem_of_getElem? h1)
        rw [hfe] at d5
        have b1 : ((i : Int) == (n : Int) - 1) = false := by rw [beq_eq_false_iff_ne]; omega
        have t0 : ((S []).data.toList == []) = true := by decide
        have t1 : ((S []).data.toList != []) = false := by decide
        clear he hfe
        go_wp2_with fail
        go_roundw
        case rel => exact ⟨i + 1, by go_num, by omega, HBr.out.alloc HBr.out.size _⟩
        case measure => simp [intOf]; omega
    · have b0 : (0 : Int) < (n : Int) := by omega
      have hb5 : Below W.heap.size W wr := HB4.out.trans (HBr.out.mono HB4.out.size)
      have HB5 := Lib.hid hb5
      have hwr := HW.out wr hb5
      clear hb5
      go_wp2_with fail
      refine hwr.mono ?_
      rintro e w6 ⟨rfl, hb6⟩
      go_wp2_with fail
      go_ret
      exact ⟨rfl, HB5.out.trans (hb6.mono HB5.out.size)⟩

end Go.Proofs.YtdljobmhnnegiaaDoor
