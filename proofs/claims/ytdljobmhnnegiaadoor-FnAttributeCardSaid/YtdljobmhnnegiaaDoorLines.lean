/- impl.Lines (function 19). -/
import Derived.Test.YtdljobmhnnegiaaDoorZZLines
namespace Go.Proofs.YtdljobmhnnegiaaDoor
open Go.RowKit

theorem info31 : (Tryd.prog.info? 31).map (fun i => (i.zero, i.size, i.bytes)) = some (some (.agg #[.slice none 0 0, .bool false]), 2, 32) := by kernel_rfl

/-- What impl.Lines leaves: the lines, two cells each. -/
def LPost (w : World) (st : List (List UInt8 × Bool)) (e : Ending) (w' : World) : Prop :=
  ∃ v xs, e = .returned v ∧ Below w.heap.size w w' ∧ w'.ownsRow w.heap.size 31 2 v st.length xs ∧
    ∀ i, (hi : i < st.length) → ∃ g cap, xs[2 * i]? = some (.slice (some ⟨g, 0, none⟩) (st[i]).1.length cap) ∧ xs[2 * i + 1]? = some (.bool (st[i]).2) ∧ (st[i]).1.length ≤ cap ∧ w.heap.size ≤ g ∧ Rd w' g 0 (st[i]).1

set_option maxRecDepth 100000 in
set_option maxHeartbeats 4000000 in
theorem lines_any {w : World} (hg4 : G4 w) (size : Nat) (hsize : size ≤ 10000) (v : Value) (ps : List (List UInt8)) (hps : PC w v ps) (hM : ps.flatten.length ≤ 1000000) (hn : ps.length ≤ 1000000000) (hst : (linesZ (max size 4) ps).length ≤ 1000000) :
    Calls Tryd.prog 19 #[.int .i64 size, v] w (LPost w (linesZ (max size 4) ps)) := by
  have k0 : (max (size : Int) 4) = ((max size 4 : Nat) : Int) := by omega
  obtain ⟨cap, hcap⟩ : ∃ cap, cap = max size 4 := ⟨_, rfl⟩
  have hz := zzlines_any hg4 cap (by omega) (by omega) v ps hps hM hn
  rw [← hcap] at k0 hst ⊢
  obtain ⟨st, hs⟩ : ∃ st, st = linesZ cap ps := ⟨_, rfl⟩
  rw [← hs] at hz hst ⊢
  have HZ := Lib.hid hz
  clear hg4 hps hM hn hcap hs hz
  go_enter Tryd.func19, Tryd.ntmps19
  go_wp2_with (go_at_call 35; refine HZ.out.mono ?_; rintro e w2 ⟨vT, vW, zs, rfl, hb, hT, hW, hel⟩; obtain ⟨pT, cT, rfl⟩ := owns_form hT; obtain ⟨pW, cW, rfl⟩ := owns_form hW)
  obtain ⟨n, hn⟩ : ∃ n, n = st.length := ⟨_, rfl⟩
  have hn1 : n ≤ 1000000 := by omega
  have HB := Lib.hid hb
  have HT := Lib.hid hT
  have HW := Lib.hid hW
  have HEL := Lib.hid hel
  have HN := Lib.hid hn
  rw [← hn]
  clear hb hT hW hel hn hst HZ
  obtain ⟨H2, hH2⟩ : ∃ H2, H2 = w2.heap.size := ⟨_, rfl⟩
  have HH2 := Lib.hid hH2
  clear hH2
  obtain ⟨i31, hi, hz0, hz1, hz2⟩ := info_parts info31
  go_loopw [7, 19] (fun v7 v19 wr => ∃ (i : Nat) (vo : Value) (xs : List Value), v19 = .int .i64 i ∧ v7 = vo ∧ i ≤ n ∧ Hid (Below H2 w2 wr) ∧ Hid (wr.ownsRow H2 31 2 vo i xs) ∧ Hid (∀ j, j < i → xs[2 * j]? = zs[j]? ∧ xs[2 * j + 1]? = (st[j]?).map (fun p => .bool p.2))) (fun _ v19 _ => n - (intOf v19).toNat)
  case atStart => exact ⟨0, _, [], rfl, rfl, Nat.zero_le _, Below.refl _ _, ⟨rfl, .inl ⟨rfl, rfl⟩⟩, fun j hj => absurd hj (Nat.not_lt_zero _)⟩
  case round =>
    obtain ⟨i, vo, xs, rfl, rfl, hin, HBr, HO, HX⟩ := hrel
    by_cases hlt : i < n
    · have hist : i < st.length := by have := HN.out; omega
      obtain ⟨g, c, a1, a2, a3, a4⟩ := HEL.out i hist
      -- the text's cell
      have hT' := HT.out
      rw [← HN.out] at hT'
      rcases hT'.2 with ⟨_, h0⟩ | ⟨gT, cT', curT, heT, hgT, hhT, _, _, _, htT⟩
      · omega
      rcases HW.out.2 with ⟨_, h0⟩ | ⟨gW, cW', curW, heW, hgW, hhW, _, _, _, htW⟩
      · omega
      cases heT
      cases heW
      have hgTl : gT < H2 := by rw [HH2.out]; exact lt_of_block hhT
      have hgWl : gW < H2 := by rw [HH2.out]; exact lt_of_block hhW
      have c1 : wr.cell? ⟨gT, i, none⟩ = some (.slice (some ⟨g, 0, none⟩) (st[i]).1.length c) := by
        rw [HBr.out.cell (p := ⟨gT, i, none⟩) hgTl]
        simp only [World.cell?, hhT]
        have : zs[i]? = curT[i]? := by rw [← htT, Nat.mul_one, List.getElem?_take, if_pos (by omega)]; simp
        rw [← this, a1]; simp
      have c2 : wr.cell? ⟨gW, i, none⟩ = some (.bool (st[i]).2) := by
        rw [HBr.out.cell (p := ⟨gW, i, none⟩) hgWl]
        simp only [World.cell?, hhW]
        have : (st.map fun p => Value.bool p.2)[i]? = curW[i]? := by rw [← htW, Nat.mul_one, List.getElem?_take, if_pos hist]; simp
        rw [← this]; simp [hist]
      have HC1 := HO
      have hbs := HBr.out.size
      have hH2 : H2 ≤ wr.heap.size := by rw [HH2.out]; exact hbs
      have HNW : Hid (∀ u ∈ [Value.slice (some ⟨g, 0, none⟩) (st[i]).1.length c, Value.bool (st[i]).2], u.oneCell' = true) := by intro u hu; simp at hu; rcases hu with rfl | rfl <;> rfl
      obtain ⟨ln, hln⟩ : ∃ ln, ln = (st[i]).1.length := ⟨_, rfl⟩
      obtain ⟨q1, hq1⟩ : ∃ q1, q1 = (st[i]).2 := ⟨_, rfl⟩
      rw [← hln] at c1
      rw [← hq1] at c2
      rw [← hln, ← hq1] at HNW
      have hX2 : zs[i]? = some (.slice (some ⟨g, 0, none⟩) ln c) := by rw [hln]; exact a1
      have hX3 : (st[i]?).map (fun p => Value.bool p.2) = some (.bool q1) := by rw [hq1]; simp [hist]
      have HX2 := Lib.hid hX2
      have HX3 := Lib.hid hX3
      clear hX2 hX3 hln hq1 a1 a2 a3 a4 hist hT' htT htW hhT hhW
      go_wp2_with (at_builtin; refine wpList_append_lies _ rfl (.tmp 24) (.tmp 31) 26 rfl H2 31 i31 _ 2 32 Tryd.underlying26 hi hz0 hz1 hz2 rfl (by decide) _ i xs rfl (HC1.out.alloc _) ⟨wr.heap.size, 0, none⟩ 1 1 [.slice (some ⟨g, 0, none⟩) ln c, .bool q1] rfl rfl (World.news_of_block (heap_alloc_new _ _)) HNW.out (by decide) (by unfold maxLen; omega) (by omega) (by simp; omega) _ rfl ?_; intro g' c' w3 hown hgrow hat hlt3)
      go_roundw
      case rel =>
        have hb3 : Below H2 w2 w3 := ((HBr.out.alloc (by omega) _).grown hgrow (by simp; omega) (fun k hk => (HC1.out.lt k hk).1))
        refine ⟨i + 1, _, _, by go_num, rfl, by omega, hb3, hown, fun j hj => ?_⟩
        have hxl := HC1.out.1
        rcases Nat.lt_or_ge j i with h | h
        · have hx := HX.out j h
          rw [List.getElem?_append_left (by omega), List.getElem?_append_left (by omega)]
          exact hx
        · have : j = i := by omega
          subst this
          rw [List.getElem?_append_right (by omega), List.getElem?_append_right (by omega), HX2.out, HX3.out, show 2 * j - xs.length = 0 by omega, show 2 * j + 1 - xs.length = 1 by omega]
          exact ⟨rfl, rfl⟩
      case measure => simp [intOf]; omega
    · have hin' : i = n := by omega
      subst hin'
      go_wp2
      go_ret
      refine ⟨_, xs, rfl, ?_, ?_, fun j hj => ?_⟩
      · have hb := HB.out
        exact hb.trans (HBr.out.mono (by rw [HH2.out]; exact hb.size))
      · rw [← HN.out]
        exact ownsRow_base HO.out (by rw [HH2.out]; exact HB.out.size)
      · obtain ⟨g, c, a1, a2, a3, a4⟩ := HEL.out j hj
        have hx := HX.out j (by rw [HN.out]; exact hj)
        refine ⟨g, c, by rw [hx.1]; exact a1, by rw [hx.2]; simp [hj], a2, a3, ?_⟩
        by_cases h0 : 0 < (st[j]).1.length
        · exact a4.below HBr.out (by rw [HH2.out]; exact a4.lt h0)
        · rw [List.eq_nil_of_length_eq_zero (Nat.eq_zero_of_not_pos h0)]; exact Rd.nil _ _ _
end Go.Proofs.YtdljobmhnnegiaaDoor
