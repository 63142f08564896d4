/- The walk of FnResult (function 10). -/
import Derived.Test.YtdljobmhnnegiaaDoorZ3
import Derived.Test.YtdljobmhnnegiaaDoorZ4
namespace Go.Proofs.YtdljobmhnnegiaaDoor
open Go.RowKit

theorem exit_any (b : Bool) (w : World) : Calls Tryd.prog 31 #[.bool b] w fun e w' => e = .returned (.int .i64 (if b = true then 2 else 1)) ∧ w = w' := by
  go_enter Tryd.func31, Tryd.ntmps31
  cases b <;>
  (go_wp2
   go_ret
   exact ⟨rfl, rfl⟩)

/-- The empty list of pieces. -/
theorem pc_nil (w : World) : PC w (.slice none 0 0) [] := ⟨none, 0, rfl, Nat.le_refl _, fun i hi => by simp at hi⟩

set_option maxRecDepth 100000 in
set_option maxHeartbeats 4000000 in
theorem walk_result (a0 : Bool) (W : World) (hG : G5 W) : Calls Tryd.prog 10 #[.bool a0] W fun e W' => e = .returned (.bool true) ∧ Below W.heap.size W W' := by
  have HG := Lib.hid hG
  have HW : Hid (∀ w', Below W.heap.size W w' → Calls Tryd.prog 22 #[] w' fun e w'' => e = .returned (.bool true) ∧ Below w'.heap.size w' w'') := fun w' hb => works_any (hG.below hb)
  have HX : Hid (∀ x : Int, x = (if a0 = true then 2 else 1) → Calls Tryd.prog 23 #[.slice none 0 0, .string ⟨#[112]⟩, .int .i64 x, .string ⟨#[]⟩, .bool true] W fun e w' =>
      ∃ g c, e = .returned (.slice (some ⟨g, 0, none⟩) 2 c) ∧ 2 ≤ c ∧ w'.cell? ⟨g, 9, none⟩ = some (.string (S (if a0 = true then tfail else tpass))) ∧ w'.cell? ⟨g, 9 + 2, none⟩ = some (.string (S [])) ∧ Below W.heap.size W w') := by
    intro x hx
    have hl := result_law x (by rw [hx]; cases a0 <;> simp)
    refine (convert_any (HG.out) (pc_nil W) [112] [] x true (by decide) (by decide)).mono ?_
    intro e w' hp
    rw [hl] at hp
    obtain ⟨v, rfl, hb2, hev⟩ := hp.evs
    obtain ⟨p, c, rfl, hf⟩ := hev.form
    obtain ⟨g, rfl, hc⟩ := hf (by simp)
    obtain ⟨ov, hcell, _⟩ := hev.cell 1 (by simp)
    have h1 := hcell 0 (by omega)
    have h2 := hcell 2 (by omega)
    refine ⟨g, c, rfl, hc, ?_, h2, hb2⟩
    rw [show (9 : Nat) = 9 * 1 + 0 by rfl, h1, hx]
    cases a0 <;> rfl
  clear hG
  go_enter Tryd.func10, Tryd.ntmps10
  go_wp2_with fail
  refine (exit_any _ _).mono ?_
  rintro e w' ⟨rfl, rfl⟩
  obtain ⟨x, hx⟩ : ∃ x : Int, x = (if a0 = true then 2 else 1) := ⟨_, rfl⟩
  have HX1 := HX.out x hx
  rw [← hx]
  clear HX hx
  dsimp only
  go_wp2_with fail
  refine HX1.mono ?_
  rintro en w1 ⟨g, c, rfl, hc, h1, h2, hb⟩
  have hw := HW.out w1 hb
  have HB := Lib.hid hb
  clear hb HX1
  have t0 : ((S []).data.toList == []) = true := by decide
  cases a0 with
  | true =>
    have t1 : ((S tfail).data.toList == [102, 97, 105, 108]) = true := by decide
    simp only [if_true] at h1
    dsimp only
    go_wp2_with fail
    refine hw.mono ?_
    rintro e w2 ⟨rfl, hb2⟩
    go_wp2_with fail
    go_ret
    exact ⟨rfl, HB.out.trans (hb2.mono HB.out.size)⟩
  | false =>
    have t1 : ((S tpass).data.toList == [112, 97, 115, 115]) = true := by decide
    simp only [Bool.false_eq_true, if_false] at h1
    dsimp only
    go_wp2_with fail
    refine hw.mono ?_
    rintro e w2 ⟨rfl, hb2⟩
    go_wp2_with fail
    go_ret
    exact ⟨rfl, HB.out.trans (hb2.mono HB.out.size)⟩

end Go.Proofs.YtdljobmhnnegiaaDoor
