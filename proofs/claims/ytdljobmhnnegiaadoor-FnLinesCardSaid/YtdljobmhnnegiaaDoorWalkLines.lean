/- The walk of FnLines (function 4). -/
import Derived.Test.YtdljobmhnnegiaaDoorWalkLinesM
namespace Go.Proofs.YtdljobmhnnegiaaDoor
open Go.RowKit

set_option maxRecDepth 100000 in
set_option maxHeartbeats 4000000 in
theorem walk_lines (a0 : Int) (a1 : ByteArray) (v2 : Value) (zs : List Int) (w : World) (hz : IC w v2 zs) (hG : G4 w) :
    Calls Tryd.prog 4 #[.int .i64 a0, .string a1, v2] w (Yes w) := by
  have HG := Lib.hid hG
  have HI := Lib.hid hz
  obtain ⟨p2, cap2, rfl, hc2, hel2⟩ := hz
  obtain ⟨N, hN⟩ : ∃ N, N = zs.length := ⟨_, rfl⟩
  rw [← hN] at hc2 HI ⊢
  have HN := Lib.hid hN
  clear hG hel2 hN
  have kc := fun (w : World) (C : Array Value) (n c : Nat) => Lib.run_convert_bytes_const (P := Tryd.prog) w 23 5 C n c Tryd.underlying23 Tryd.underlying5
  have HA : Hid (∀ (w1 : World), G4 w1 → ∀ (C : Array Value) (fr fr2 : Nat × Nat), C.toList = vals [97, 10] → Calls Tryd.prog 19 #[.int .i64 8, .slice (some ⟨w1.heap.size + 1, 0, none⟩) 1 1] ((w1.alloc (.cells C 5 fr)).alloc (.cells #[.slice (some ⟨w1.heap.size, 0, none⟩) 2 2] 23 fr2)) fun e w' => ∃ p q, e = .returned (.slice p 1 q) ∧ Below w1.heap.size w1 w') :=
    fun w1 h C fr fr2 hC => lines_a h C fr fr2 hC 2 2 rfl (Nat.le_refl _)
  by_cases hbig : 2147483647 < a1.size
  · go_enter Tryd.func4, Tryd.ntmps4
    go_wp2
    go_ret
    exact ⟨rfl, Below.refl _ _⟩
  · by_cases hbig2 : 2147483647 < N
    · go_enter Tryd.func4, Tryd.ntmps4
      go_wp2
      go_ret
      exact ⟨rfl, Below.refl _ _⟩
    · by_cases h0 : a0 < 0
      · go_enter Tryd.func4, Tryd.ntmps4
        go_wp2_with fail
        refine (HA.out _ HG.out _ _ _ rfl).mono ?_
        rintro e w9 ⟨p9, q9, rfl, hb9⟩
        have HB9 := Lib.hid hb9
        clear hb9
        go_wp2
        go_ret
        exact ⟨rfl, HB9.out⟩
      by_cases h1 : 1000 < a0
      · go_enter Tryd.func4, Tryd.ntmps4
        go_wp2_with fail
        refine (HA.out _ HG.out _ _ _ rfl).mono ?_
        rintro e w9 ⟨p9, q9, rfl, hb9⟩
        have HB9 := Lib.hid hb9
        clear hb9
        go_wp2
        go_ret
        exact ⟨rfl, HB9.out⟩
      by_cases h2 : 2000 < a1.size
      · go_enter Tryd.func4, Tryd.ntmps4
        go_wp2_with fail
        refine (HA.out _ HG.out _ _ _ rfl).mono ?_
        rintro e w9 ⟨p9, q9, rfl, hb9⟩
        have HB9 := Lib.hid hb9
        clear hb9
        go_wp2
        go_ret
        exact ⟨rfl, HB9.out⟩
      obtain ⟨vb, hvb⟩ : ∃ vb, vb = vldB a1 := ⟨_, rfl⟩
      obtain ⟨mb, hmb⟩ : ∃ mb, mb = markedB a1.data.toList := ⟨_, rfl⟩
      obtain ⟨tb, htb⟩ : ∃ tb, tb = tabbedB a1.data.toList := ⟨_, rfl⟩
      have cv : ∀ w, Calls Tryd.prog 16 #[.string a1] w fun e w' => e = .returned (.bool (vldB a1)) ∧ Below w.heap.size w w' := fun w => (valid_any a1 w).mono (by rintro e w' ⟨he, p, rfl⟩; exact ⟨he, (Below.refl _ _).alloc (Nat.le_refl _) _⟩)
      have cm := fun w => marked_any a1 w (by omega)
      have ct := fun w => tabbed_any a1 w (by omega)
      rw [← hvb] at cv
      rw [← hmb] at cm
      rw [← htb] at ct
      have CV := Lib.hid cv
      have CM := Lib.hid cm
      have CT := Lib.hid ct
      have HMB := Lib.hid hmb
      have HTB := Lib.hid htb
      clear cv cm ct hvb hmb htb
      cases vb with
      | false =>
        go_enter Tryd.func4, Tryd.ntmps4
        go_wp2_with (go_at_call 16; refine (CV.out _).mono ?_; rintro e w7 ⟨rfl, hb7⟩)
        refine (HA.out _ (HG.out.below hb7) _ _ _ rfl).mono ?_
        rintro e w9 ⟨p9, q9, rfl, hb9⟩
        have HB9 := Lib.hid hb9
        clear hb9
        go_wp2
        go_ret
        exact ⟨rfl, hb7.trans (HB9.out.mono hb7.size)⟩
      | true =>
      cases mb with
      | true =>
        go_enter Tryd.func4, Tryd.ntmps4
        go_wp2_with (first | (go_at_call 16; refine (CV.out _).mono ?_; rintro e w7 ⟨rfl, hb7⟩) | (go_at_call 17; refine (CM.out _).mono ?_; rintro e w' ⟨rfl, rfl⟩))
        refine (HA.out _ (HG.out.below hb7) _ _ _ rfl).mono ?_
        rintro e w9 ⟨p9, q9, rfl, hb9⟩
        have HB9 := Lib.hid hb9
        clear hb9
        go_wp2
        go_ret
        exact ⟨rfl, hb7.trans (HB9.out.mono hb7.size)⟩
      | false =>
      cases tb with
      | true =>
        go_enter Tryd.func4, Tryd.ntmps4
        go_wp2_with (first | (go_at_call 16; refine (CV.out _).mono ?_; rintro e w7 ⟨rfl, hb7⟩) | (go_at_call 17; refine (CM.out _).mono ?_; rintro e w' ⟨rfl, rfl⟩) | (go_at_call 18; refine (CT.out _).mono ?_; rintro e w' ⟨rfl, rfl⟩))
        refine (HA.out _ (HG.out.below hb7) _ _ _ rfl).mono ?_
        rintro e w9 ⟨p9, q9, rfl, hb9⟩
        have HB9 := Lib.hid hb9
        clear hb9
        go_wp2
        go_ret
        exact ⟨rfl, hb7.trans (HB9.out.mono hb7.size)⟩
      | false =>
        exact walk_lines_main a0 a1 p2 N cap2 zs w HI HN HG HA hbig hbig2 h0 h1 h2 CV CM CT HMB HTB hc2

end Go.Proofs.YtdljobmhnnegiaaDoor
