/- The walk of FnConcatenation (function 7). -/
import Derived.Test.YtdljobmhnnegiaaDoorOutputsZ
import Derived.Test.YtdljobmhnnegiaaDoorWalkStartZ
namespace Go.Proofs.YtdljobmhnnegiaaDoor
open Go.RowKit

theorem noMark_of {l : List UInt8} (h : markedB l = false) : NoMark l := by
  intro c hc
  unfold markedB at h
  rw [List.any_eq_false] at h
  have := h c hc
  unfold markN at this
  simp at this
  refine ⟨fun hh => ?_, fun hh => ?_, fun hh => ?_, fun hh => ?_⟩ <;> (subst hh; revert this; decide)

set_option maxRecDepth 100000 in
set_option maxHeartbeats 8000000 in
theorem walk_cat (a0 : ByteArray) (v1 : Value) (zs : List Int) (W : World) (hI : IC W v1 zs) (hG : G5 W) :
    Calls Tryd.prog 7 #[.string a0, v1] W fun e W' => e = .returned (.bool true) ∧ Below W.heap.size W W' := by
  have HG := Lib.hid hG
  have HW : Hid (∀ w', Below W.heap.size W w' → Calls Tryd.prog 22 #[] w' fun e w'' => e = .returned (.bool true) ∧ Below w'.heap.size w' w'') := fun w' hb => works_any (HG.out.below hb)
  have HPC : Hid (∀ w', Below W.heap.size W w' → a0.size ≤ 1000000 → zs.length ≤ 2147483647 → Calls Tryd.prog 20 #[.string a0, v1] w' (PiecesPost w' a0)) := fun w' hb h1 h2 => pieces_any a0 h1 v1 zs (hI.below hb) h2
  obtain ⟨p1, cap1, rfl, hc, _⟩ := hI
  obtain ⟨N, hN⟩ : ∃ N, N = zs.length := ⟨_, rfl⟩
  rw [← hN] at hc HPC ⊢
  clear hN hG
  have hW0 := HW.out W (Below.refl _ _)
  have HW0 := Lib.hid hW0
  clear hW0
  by_cases hb1 : 2147483647 < a0.size
  · go_enter Tryd.func7, Tryd.ntmps7
    go_wp2
    go_ret
    exact ⟨rfl, Below.refl _ _⟩
  by_cases hb2 : 2147483647 < N
  · go_enter Tryd.func7, Tryd.ntmps7
    go_wp2
    go_ret
    exact ⟨rfl, Below.refl _ _⟩
  by_cases h0 : 2000 < a0.size
  · go_enter Tryd.func7, Tryd.ntmps7
    go_wp2_with fail
    refine HW0.out.mono ?_
    rintro e w2 ⟨rfl, hb⟩
    go_wp2_with fail
    go_ret
    exact ⟨rfl, hb⟩
  have HV := Lib.hid (valid_any a0 W)
  obtain ⟨bv, hbv⟩ : ∃ bv, bv = vldB a0 := ⟨_, rfl⟩
  rw [← hbv] at HV
  clear hbv
  obtain ⟨bm, hbm⟩ : ∃ bm, bm = markedB a0.data.toList := ⟨_, rfl⟩
  have HM : Hid (∀ w, Calls Tryd.prog 17 #[.string a0] w fun e w' => e = .returned (.bool bm) ∧ w = w') := fun w => by rw [hbm]; exact marked_any a0 w (by omega)
  have HBM := Lib.hid hbm
  have HR : Hid (∀ w, Calls Tryd.prog 24 #[.string a0] w (RenPost a0.data.toList w)) := fun w => renamed_any a0 w (by omega)
  clear hbm
  go_enter Tryd.func7, Tryd.ntmps7
  go_wp2_with fail
  refine HV.out.mono ?_
  rintro e w1 ⟨rfl, hex⟩
  have hb1 : Below W.heap.size W w1 := by obtain ⟨p, rfl⟩ := hex; exact (Below.refl _ W).alloc (Nat.le_refl _) _
  clear hex
  have HW1 := Lib.hid (HW.out w1 hb1)
  have HB1 := Lib.hid hb1
  clear hb1
  cases bv with
  | false =>
    dsimp only
    go_wp2_with fail
    refine HW1.out.mono ?_
    rintro e w2 ⟨rfl, hb⟩
    go_wp2_with fail
    go_ret
    exact ⟨rfl, HB1.out.trans (hb.mono HB1.out.size)⟩
  | true =>
  dsimp only
  go_wp2_with fail
  refine (HM.out _).mono ?_
  rintro e w' ⟨rfl, rfl⟩
  cases bm with
  | true =>
    dsimp only
    go_wp2_with fail
    refine HW1.out.mono ?_
    rintro e w2 ⟨rfl, hb⟩
    go_wp2_with fail
    go_ret
    exact ⟨rfl, HB1.out.trans (hb.mono HB1.out.size)⟩
  | false =>
  dsimp only
  go_wp2_with fail
  refine (HR.out _).mono ?_
  rintro e w' ⟨br, rfl, hbr, rfl⟩
  have HBR := Lib.hid hbr
  clear hbr
  cases br with
  | true =>
    dsimp only
    go_wp2_with fail
    refine HW1.out.mono ?_
    rintro e w2 ⟨rfl, hb⟩
    go_wp2_with fail
    go_ret
    exact ⟨rfl, HB1.out.trans (hb.mono HB1.out.size)⟩
  | false =>
  have HP1 := Lib.hid (HPC.out w1 HB1.out (by omega) (by omega))
  dsimp only
  go_wp2_with fail
  refine HP1.out.mono ?_
  rintro e w2 ⟨v2, ps, rfl, hpc, hfl, hpn, hb2⟩
  have HS2 : Hid (Calls Tryd.prog 23 #[v2, .string (S [112]), .int .i64 1, .string (S []), .bool true] w2 fun e w' => ∃ evs v', e = .returned v' ∧ evs = convF ps 1 [] true ∧ EvsAt w' [112] evs v' ∧ Below W.heap.size W w') :=
    start_call HG.out HB1.out a0 (by omega) v2 ps hpc hfl hpn hb2 [112] 1
  have hcat := cat_law ps 1 (by rw [hfl]; exact noMark_of HBM.out.symm) (by rw [hfl]; exact HBR.out (by trivial))
  rw [hfl] at hcat
  have HCAT := Lib.hid hcat
  clear hpc hfl hpn hb2 hcat HP1
  dsimp only
  go_wp2_with fail
  refine HS2.out.mono ?_
  rintro e w3 ⟨evs, v3, rfl, hevs, hat, hb3⟩
  obtain ⟨p3, c3, rfl, hf⟩ := hat.form
  obtain ⟨q, hq⟩ := convF_head ps 1 [] true
  obtain ⟨g3, rfl, hlc⟩ := hf (by rw [hevs, hq]; simp)
  have hol : outsL evs = a0.data.toList := by rw [hevs]; exact HCAT.out
  have ho := outputs_any hat rfl hlc (by rw [hol]; simp; omega)
  rw [hol] at ho
  have hSa : S a0.data.toList = a0 := rfl
  rw [hSa] at ho
  have HO := Lib.hid ho
  have HB3 := Lib.hid hb3
  obtain ⟨n, hn⟩ : ∃ n, n = evs.length := ⟨_, rfl⟩
  rw [← hn] at hlc HO ⊢
  clear hat hf hevs hq hol ho hb3 hn hSa HS2
  dsimp only
  go_wp2_with fail
  refine HO.out.mono ?_
  rintro e w4 ⟨rfl, hb4⟩
  have HB4 : Hid (Below W.heap.size W w4) := HB3.out.trans (hb4.mono HB3.out.size)
  have HW4 := Lib.hid (HW.out w4 HB4.out)
  clear hb4
  dsimp only
  go_wp2_with fail
  refine HW4.out.mono ?_
  rintro e w5 ⟨rfl, hb5⟩
  go_wp2_with fail
  go_ret
  exact ⟨rfl, HB4.out.trans (hb5.mono HB4.out.size)⟩

end Go.Proofs.YtdljobmhnnegiaaDoor
