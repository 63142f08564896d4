/- The walk of FnStart (function 11). -/
import Derived.Test.YtdljobmhnnegiaaDoorZ6
import Derived.Test.YtdljobmhnnegiaaDoorWalkLinesM
namespace Go.Proofs.YtdljobmhnnegiaaDoor
open Go.RowKit

/-- Convert over the pieces of a text. -/
theorem start_call {W w1 w2 : World} (hG : G5 W) (h1 : Below W.heap.size W w1) (a0 : ByteArray) (h0 : a0.size ≤ 2000) (v : Value) (ps : List (List UInt8)) (hpc : PC w2 v ps) (hfl : ps.flatten = a0.data.toList) (hpn : ps.length ≤ a0.size) (h2 : Below w1.heap.size w1 w2) (pkg : List UInt8) (exit : Int) :
    Calls Tryd.prog 23 #[v, .string (S pkg), .int .i64 exit, .string (S []), .bool true] w2 fun e w' => ∃ evs v', e = .returned v' ∧ evs = convF ps exit [] true ∧ EvsAt w' pkg evs v' ∧ Below W.heap.size W w' := by
  have hfl2 : ps.flatten.length = a0.size := by rw [hfl]; simp
  have h02 := h1.trans (h2.mono h1.size)
  refine (convert_any (hG.below h02) hpc pkg [] exit true (by omega) (by omega)).mono ?_
  intro e w' hp
  obtain ⟨v', rfl, hb, hev⟩ := hp.evs
  exact ⟨_, v', rfl, rfl, hev, h02.trans (hb.mono h02.size)⟩

set_option maxRecDepth 100000 in
set_option maxHeartbeats 4000000 in
theorem walk_start_main (a0 : ByteArray) (p1 : Option Addr) (N cap1 : Nat) (zs : List Int) (a2 : ByteArray) (a3 : Int) (W : World) (HI : Hid (IC W (.slice p1 N cap1) zs)) (HN : Hid (N = zs.length)) (HG : Hid (G5 W))
    (hb1 : ¬ 2147483647 < a0.size) (hb2 : ¬ 2147483647 < N) (hb3 : ¬ 2147483647 < a2.size) (h0 : ¬ 2000 < a0.size) (_hc : N ≤ cap1) :
    Calls Tryd.prog 11 #[.string a0, .slice p1 N cap1, .string a2, .int .i64 a3] W fun e W' => e = .returned (.bool true) ∧ Below W.heap.size W W' := by
  have HW : Hid (∀ w', Below W.heap.size W w' → Calls Tryd.prog 22 #[] w' fun e w'' => e = .returned (.bool true) ∧ Below w'.heap.size w' w'') := fun w' hb => works_any (HG.out.below hb)
  have HP : Hid (Calls Tryd.prog 20 #[.string a0, .slice p1 N cap1] W (PiecesPost W a0)) := pieces_any a0 (by omega) _ zs HI.out (by have := HN.out; omega)
  obtain ⟨pk, hpk⟩ : ∃ pk, pk = a2.data.toList := ⟨_, rfl⟩
  have hS : a2 = S pk := by rw [hpk]
  clear hpk
  subst hS
  have hb3' : ¬ 2147483647 < pk.length := by rw [← S_size]; exact hb3
  have hb3i : ¬ (2147483647 : Int) < (pk.length : Int) := by omega
  go_enter Tryd.func11, Tryd.ntmps11
  go_wp2_with fail
  refine HP.out.mono ?_
  rintro e w1 ⟨v1, ps, rfl, hpc, hfl, hpn, hbel⟩
  dsimp only
  go_wp2_with fail
  refine (start_call HG.out (Below.refl _ W) a0 (by omega) v1 ps hpc hfl hpn hbel pk a3).mono ?_
  rintro en w2 ⟨evs, v2, rfl, hevs, hat, hbw⟩
  obtain ⟨p2, c2, rfl, hf⟩ := hat.form
  obtain ⟨r, hr⟩ := convF_head ps a3 [] true
  rw [← hevs] at hr
  obtain ⟨g2, rfl, hlc⟩ := hf (by rw [hr]; simp)
  have hw := HW.out
  have HAT := Lib.hid hat
  have HB := Lib.hid hbw
  obtain ⟨n, hn⟩ : ∃ n, n = evs.length := ⟨_, rfl⟩
  have hn0 : 0 < n := by rw [hn, hr]; simp
  have HNN := Lib.hid hn
  have HR := Lib.hid hr
  rw [← hn] at hlc ⊢
  have hbig : n ≤ maxLen := by rw [hn]; exact hat.few
  have hbig2 : n ≤ 9223372036854775807 := by unfold maxLen at hbig; omega
  have HCELL : Hid (∀ w', Below w2.heap.size w2 w' → ∀ i, i < n → ∃ (e : Ev) (pv : Option Addr) (nv cv : Nat), Hid (evs[i]? = some e) ∧ CellsE w' g2 i pk e pv nv cv) := by
    intro w' hb i hi
    have h1 := HAT.out.below hb
    rw [← HNN.out] at h1
    exact h1.at HNN.out i hi
  clear hat hbw hn hr hf hevs hpc hfl hpn hbel
  dsimp only
  go_wp2_with fail
  go_loopw [37] (fun v37 wr => ∃ i : Nat, v37 = .int .i64 i ∧ i ≤ n ∧ Hid (Below w2.heap.size w2 wr)) (fun v37 _ => n - (intOf v37).toNat)
  case atStart => exact ⟨0, rfl, Nat.zero_le _, Below.refl _ _⟩
  case round =>
    obtain ⟨i, rfl, hin, HBr⟩ := hrel
    by_cases hlt : i < n
    · obtain ⟨e, pv, nv, cv, _, hcell⟩ := HCELL.out wr HBr.out i hlt
      obtain ⟨d0, d1, d2, d3, d4, d5, d6, d7, d8, _⟩ := hcell
      go_wp2_with fail
      go_roundw
      case rel => exact ⟨i + 1, by go_num, by omega, HBr.out.alloc HBr.out.size _⟩
      case measure => simp [intOf]; omega
    · have d0 : wr.cell? ⟨g2, 0, none⟩ = some (.string (S tstart)) := by
        obtain ⟨e, pv, nv, cv, he, hcell⟩ := HCELL.out wr HBr.out 0 hn0
        have := hcell.c0
        rw [HR.out] at he
        obtain rfl : Ev.of tstart [] = e := Option.some.inj he.out
        rw [Nat.zero_mul] at this
        exact this
      have t1 : ((S tstart).data.toList == [115, 116, 97, 114, 116]) = true := by decide
      have b0 : (0 : Int) < (n : Int) := by omega
      have hwr := hw wr (HB.out.trans (HBr.out.mono HB.out.size))
      go_wp2_with fail
      refine hwr.mono ?_
      rintro e w3 ⟨rfl, hb3⟩
      go_wp2_with fail
      go_ret
      exact ⟨rfl, (HB.out.trans (HBr.out.mono HB.out.size)).trans (hb3.mono (Nat.le_trans HB.out.size HBr.out.size))⟩

set_option maxRecDepth 100000 in
set_option maxHeartbeats 4000000 in
theorem walk_start (a0 : ByteArray) (v1 : Value) (zs : List Int) (a2 : ByteArray) (a3 : Int) (W : World) (hI : IC W v1 zs) (hG : G5 W) :
    Calls Tryd.prog 11 #[.string a0, v1, .string a2, .int .i64 a3] W fun e W' => e = .returned (.bool true) ∧ Below W.heap.size W W' := by
  have hI0 := hI
  obtain ⟨p1, cap1, rfl, hc, hel⟩ := hI
  have HG := Lib.hid hG
  have HW : Hid (Calls Tryd.prog 22 #[] W fun e w'' => e = .returned (.bool true) ∧ Below W.heap.size W w'') := works_any hG
  have HI := Lib.hid hI0
  obtain ⟨N, hN⟩ : ∃ N, N = zs.length := ⟨_, rfl⟩
  rw [← hN] at HI hc ⊢
  have HN := Lib.hid hN
  clear hI0 hel hG hN
  by_cases hb1 : 2147483647 < a0.size
  · go_enter Tryd.func11, Tryd.ntmps11
    go_wp2
    go_ret
    exact ⟨rfl, Below.refl _ _⟩
  by_cases hb2 : 2147483647 < N
  · go_enter Tryd.func11, Tryd.ntmps11
    go_wp2
    go_ret
    exact ⟨rfl, Below.refl _ _⟩
  by_cases hb3 : 2147483647 < a2.size
  · go_enter Tryd.func11, Tryd.ntmps11
    go_wp2
    go_ret
    exact ⟨rfl, Below.refl _ _⟩
  by_cases h0 : 2000 < a0.size
  · go_enter Tryd.func11, Tryd.ntmps11
    go_wp2_with fail
    refine HW.out.mono ?_
    rintro e w2 ⟨rfl, hb⟩
    go_wp2_with fail
    go_ret
    exact ⟨rfl, hb⟩
  exact walk_start_main a0 p1 N cap1 zs a2 a3 W HI HN HG hb1 hb2 hb3 h0 hc

end Go.Proofs.YtdljobmhnnegiaaDoor
