/- The walk of FnLines (function 4) where every test is passed: the lines are made, and each is looked at. -/
import Derived.Test.YtdljobmhnnegiaaDoorPieces
import Derived.Test.YtdljobmhnnegiaaDoorLinesLaw
import Derived.Test.YtdljobmhnnegiaaDoorValid
import Derived.Test.YtdljobmhnnegiaaDoorWalkBenchmark
namespace Go.Proofs.YtdljobmhnnegiaaDoor
open Go.RowKit

theorem linesZ_a : (linesZ (max 8 4) [[97, 10]]).length = 1 := by decide +kernel

theorem IC.below {w w' : World} {v : Value} {zs : List Int} (h : IC w v zs) (hb : Below w.heap.size w w') : IC w' v zs := by
  obtain ⟨p, cap, rfl, hc, hel⟩ := h
  refine ⟨p, cap, rfl, hc, fun i hi => ?_⟩
  obtain ⟨g, off, hp, hcell⟩ := hel i hi
  exact ⟨g, off, hp, cellB hb hcell⟩

/-- 'len(impl.Lines(8, [][]byte{[]byte("a\\n")})) == 1'. -/
theorem lines_a {w : World} (hG : G4 w) (C : Array Value) (fr fr2 : Nat × Nat) (hC : C.toList = vals [97, 10]) (n c : Nat) (hn : n = 2) (hc : n ≤ c) :
    Calls Tryd.prog 19 #[.int .i64 8, .slice (some ⟨w.heap.size + 1, 0, none⟩) 1 1] ((w.alloc (.cells C 5 fr)).alloc (.cells #[.slice (some ⟨w.heap.size, 0, none⟩) n c] 23 fr2)) fun e w' => ∃ p q, e = .returned (.slice p 1 q) ∧ Below w.heap.size w w' := by
  subst hn
  have hb : Below w.heap.size w ((w.alloc (.cells C 5 fr)).alloc (.cells #[.slice (some ⟨w.heap.size, 0, none⟩) 2 c] 23 fr2)) := ((Below.refl _ _).alloc (Nat.le_refl _) _).alloc (by rw [size_alloc]; omega) _
  have h1 : ((w.alloc (.cells C 5 fr)).alloc (.cells #[.slice (some ⟨w.heap.size, 0, none⟩) 2 c] 23 fr2)).heap[w.heap.size]? = some (.cells C 5 fr) := by
    rw [Below.heap_alloc _ _ _ (by rw [size_alloc]; omega)]; exact heap_alloc_new _ _
  have h2 : ((w.alloc (.cells C 5 fr)).alloc (.cells #[.slice (some ⟨w.heap.size, 0, none⟩) 2 c] 23 fr2)).heap[w.heap.size + 1]? = some (.cells #[.slice (some ⟨w.heap.size, 0, none⟩) 2 c] 23 fr2) := by
    rw [← size_alloc w (.cells C 5 fr)]; exact heap_alloc_new _ _
  have hps : PC ((w.alloc (.cells C 5 fr)).alloc (.cells #[.slice (some ⟨w.heap.size, 0, none⟩) 2 c] 23 fr2)) (.slice (some ⟨w.heap.size + 1, 0, none⟩) 1 1) [[97, 10]] := by
    refine ⟨_, 1, rfl, Nat.le_refl _, fun i hi => ?_⟩
    have : i = 0 := by simpa using hi
    subst this
    refine ⟨_, 0, w.heap.size, 0, c, rfl, ?_, hc, Rd.of_block h1 (by rw [hC]; rfl)⟩
    simp only [World.cell?, h2]
    rfl
  have h := lines_any (hG.below hb) 8 (by omega) _ [[97, 10]] hps (by decide) (by decide) (by rw [linesZ_a]; omega)
  refine h.mono ?_
  rintro e w' ⟨v, xs, rfl, hbel, hown, _⟩
  rw [linesZ_a] at hown
  obtain ⟨p, q, rfl⟩ := owns_form hown
  exact ⟨p, q, rfl, hb.trans (hbel.mono hb.size)⟩

set_option maxRecDepth 100000 in
set_option maxHeartbeats 4000000 in
theorem walk_lines_main (a0 : Int) (a1 : ByteArray) (p2 : Option Addr) (N cap2 : Nat) (zs : List Int) (w : World) (HI : Hid (IC w (.slice p2 N cap2) zs)) (HN : Hid (N = zs.length)) (HG : Hid (G4 w))
    (HA : Hid (∀ (w1 : World), G4 w1 → ∀ (C : Array Value) (fr fr2 : Nat × Nat), C.toList = vals [97, 10] → Calls Tryd.prog 19 #[.int .i64 8, .slice (some ⟨w1.heap.size + 1, 0, none⟩) 1 1] ((w1.alloc (.cells C 5 fr)).alloc (.cells #[.slice (some ⟨w1.heap.size, 0, none⟩) 2 2] 23 fr2)) fun e w' => ∃ p q, e = .returned (.slice p 1 q) ∧ Below w1.heap.size w1 w'))
    (hbig : ¬ 2147483647 < a1.size) (hbig2 : ¬ 2147483647 < N) (h0 : ¬ a0 < 0) (h1 : ¬ 1000 < a0) (h2 : ¬ 2000 < a1.size)
    (CV : Hid (∀ w, Calls Tryd.prog 16 #[.string a1] w fun e w' => e = .returned (.bool true) ∧ Below w.heap.size w w'))
    (CM : Hid (∀ w, Calls Tryd.prog 17 #[.string a1] w fun e w' => e = .returned (.bool false) ∧ w = w'))
    (CT : Hid (∀ w, Calls Tryd.prog 18 #[.string a1] w fun e w' => e = .returned (.bool false) ∧ w = w'))
    (HMB : Hid (false = markedB a1.data.toList)) (HTB : Hid (false = tabbedB a1.data.toList)) (_hc2 : N ≤ cap2) :
    Calls Tryd.prog 4 #[.int .i64 a0, .string a1, .slice p2 N cap2] w (Yes w) := by
  have kc := fun (w : World) (C : Array Value) (n c : Nat) => Lib.run_convert_bytes_const (P := Tryd.prog) w 23 5 C n c Tryd.underlying23 Tryd.underlying5
  have hpl := plain_of HMB.out.symm HTB.out.symm
  obtain ⟨size, rfl⟩ : ∃ size : Nat, a0 = size := ⟨a0.toNat, by omega⟩
  have hsz : size ≤ 1000 := by omega
  have hs1 : a1.size ≤ 2000 := by omega
  have HPL := Lib.hid hpl
  clear hpl HMB HTB
  have HP : Hid (∀ w7, Below w.heap.size w w7 → Calls Tryd.prog 20 #[.string a1, .slice p2 N cap2] w7 (PiecesPost w7 a1)) := fun w7 hb => pieces_any a1 (by omega) _ zs (by have := HI.out.below hb; exact this) (by have := HN.out; omega)
  go_enter Tryd.func4, Tryd.ntmps4
  go_wp2_with (first | (go_at_call 16; refine (CV.out _).mono ?_; rintro e w7 ⟨rfl, hb7⟩) | (go_at_call 17; refine (CM.out _).mono ?_; rintro e w' ⟨rfl, rfl⟩) | (go_at_call 18; refine (CT.out _).mono ?_; rintro e w' ⟨rfl, rfl⟩) | (go_at_call 20; refine (HP.out _ hb7).mono ?_; rintro e w8 ⟨v8, ps, rfl, hpc, hfl, hpn, hb8⟩))
  have h08 : Below w.heap.size w w8 := hb7.trans (hb8.mono hb7.size)
  have hfl2 : ps.flatten.length = a1.size := by rw [hfl]; simp
  have hplf : PlainB ps.flatten := by rw [hfl]; exact HPL.out
  have hlaw := linesZ_law (cap := max size 4) (by omega) ps hplf
  have hfew := linesZ_few (cap := max size 4) (by omega) ps hplf
  have hcall := lines_any (HG.out.below h08) size (by omega) v8 ps hpc (by omega) (by omega) (by omega)
  obtain ⟨st, hst⟩ : ∃ st, st = linesZ (max size 4) ps := ⟨_, rfl⟩
  rw [← hst] at hlaw hfew hcall
  rw [hfl] at hlaw
  have hl2 : a1.data.toList.length = a1.size := by simp
  rw [hl2] at hlaw
  refine hcall.mono ?_
  rintro e w9 ⟨v9, xs, rfl, hb9, hown, hel⟩
  obtain ⟨p9, c9, rfl⟩ := owns_form hown
  have h09 : Below w.heap.size w w9 := h08.trans (hb9.mono h08.size)
  have HLAW := Lib.hid hlaw
  have HOWN := Lib.hid hown
  have HEL := Lib.hid hel
  have H09 := Lib.hid h09
  obtain ⟨n, hn⟩ : ∃ n, n = st.length := ⟨_, rfl⟩
  have HNN := Lib.hid hn
  rw [← hn] at hfew ⊢
  clear hcall hlaw hown hel hst hplf hfl hpc hb8 hb9 h08 h09 hn hb7
  go_wp2
  go_loopw [7, 57] (fun v7 v57 wr => ∃ (i : Nat) (sa : ByteArray), v57 = .int .i64 i ∧ v7 = .string sa ∧ i ≤ n ∧ Hid (Below w9.heap.size w9 wr) ∧ Hid (sa.data.toList = ((st.take i).map (·.1)).flatten)) (fun _ v57 _ => n - (intOf v57).toNat)
  case atStart => exact ⟨0, _, rfl, rfl, Nat.zero_le _, Below.refl _ _, rfl⟩
  case round =>
    obtain ⟨i, sa, rfl, rfl, hin, HBr, HSA⟩ := hrel
    by_cases hlt : i < n
    · have hist : i < st.length := by have := HNN.out; omega
      obtain ⟨g, c, x1, x2, x3, x4, x5⟩ := HEL.out i hist
      rcases HOWN.out.2 with ⟨_, hz⟩ | ⟨gL, cL, cur, heL, hgL, hhL, hcL, _, _, htL⟩
      · omega
      cases heL
      have hgLl : gL < w9.heap.size := lt_of_block hhL
      obtain ⟨lt, hlt1⟩ : ∃ lt, lt = (st[i]).1 := ⟨_, rfl⟩
      obtain ⟨q, hq⟩ : ∃ q, q = (st[i]).2 := ⟨_, rfl⟩
      have hok := HLAW.out.2 st[i] (List.getElem_mem hist)
      have hrd : Rd wr g 0 lt := by
        rw [hlt1]
        by_cases h0 : 0 < (st[i]).1.length
        · exact x5.below HBr.out (x5.lt h0)
        · rw [List.eq_nil_of_length_eq_zero (Nat.eq_zero_of_not_pos h0)]; exact Rd.nil _ _ _
      have hcur : ∀ j, j < n * 2 → cur[j]? = xs[j]? := fun j hj => by
        rw [← htL, ← HNN.out, List.getElem?_take, if_pos hj]; simp
      have d1 : wr.cell? ⟨gL, i * 2, none⟩ = some (.slice (some ⟨g, 0, none⟩) lt.length c) := by
        rw [HBr.out.cell (p := ⟨gL, i * 2, none⟩) hgLl]
        simp only [World.cell?, hhL]
        rw [hcur _ (by omega), show i * 2 = 2 * i by omega, x1, hlt1]; simp
      have d2 : wr.cell? ⟨gL, i * 2 + 1, none⟩ = some (.bool q) := by
        rw [HBr.out.cell (p := ⟨gL, i * 2 + 1, none⟩) hgLl]
        simp only [World.cell?, hhL]
        rw [hcur _ (by omega), show i * 2 + 1 = 2 * i + 1 by omega, x2, hq]; simp
      unfold OkE at hok
      rw [← hlt1, ← hq] at hok
      rw [← hlt1] at x3
      obtain ⟨⟨y1, y2⟩, y3, y4, y5⟩ := hok
      have HRD := Lib.hid hrd
      have HLT := Lib.hid hlt1
      clear x1 x2 x4 x5 htL hhL hlt1 hq
      have hcat : ¬ 9223372036854775807 < sa.size + lt.length := by
        have e1 : st.take (i + 1) = st.take i ++ [st[i]] := by rw [List.take_succ_eq_append_getElem hist]
        have e2 := congrArg List.length HLAW.out.1
        rw [← List.take_append_drop (i + 1) st, e1] at e2
        simp only [List.map_append, List.flatten_append, List.length_append, List.map_cons, List.map_nil, List.flatten_cons, List.flatten_nil, List.append_nil, ← HSA.out, ← HLT.out] at e2
        have e3 : sa.data.toList.length = sa.size := by simp
        omega
      have hlast : wr.cell? ⟨g, lt.length - 1, none⟩ = some (.int .u8 (lt.getD (lt.length - 1) 0).toNat) := by have := hrd (lt.length - 1) (by omega); rwa [Nat.zero_add] at this
      obtain ⟨xl, hxl⟩ : ∃ xl, xl = (lt.getD (lt.length - 1) 0).toNat := ⟨_, rfl⟩
      rw [← hxl] at hlast
      have HXL : Hid (lt.getLast? = some 10 ↔ xl = 10) := by
        show _ ↔ _
        rw [hxl, List.getLast?_eq_getElem?, List.getD_eq_getElem?_getD, List.getElem?_eq_getElem (show lt.length - 1 < lt.length by omega)]
        simp only [Option.some.injEq, Option.getD_some]
        exact UInt8.toNat_inj.symm
      have HOK := Lib.hid (And.intro y3 (And.intro y4 y5))
      obtain ⟨L, hL⟩ : ∃ L, L = lt.length := ⟨_, rfl⟩
      have HL := Lib.hid hL
      rw [← hL] at d1 y1 y2 hlast x3
      have hcv : ∀ o, (convert 23 9 (.slice (some ⟨g, 0, none⟩) L c)).run Tryd.prog (wr.alloc o) = .ok (.string (S lt)) (wr.alloc o) := fun o => conv_str (HRD.out.grow ((Below.refl _ wr).alloc (Nat.le_refl _) o)) L c HL.out
      have hg : g < wr.heap.size := by have := HRD.out.lt (by rw [← HL.out]; exact y1); exact this
      have hmx : ¬ ((max size 4 : Nat) : Int) < (L : Int) := by omega
      have hmx2 : ((max size 4 : Nat) : Int) = max (size : Int) 4 := by omega
      rw [hmx2] at hmx
      clear hxl hL hmx2 y3 y4 y5
      have hw : ¬ (q = true ∧ xl ≠ 10) := fun hh => hh.2 (HXL.out.1 (HOK.out.2.1 hh.1))
      have hw2 : ¬ (q = false ∧ xl = 10 ∧ a1.size < size) := fun hh => by have h4 : size ≤ a1.size := Nat.le_trans (Nat.le_max_left _ _) (HOK.out.2.2 hh.1 (HXL.out.2 hh.2.1)); omega
      have l1 : (0 : Int) ≤ (L : Int) - 1 := by omega
      have l2 : (L : Int) - 1 < (L : Int) := by omega
      have l3 : ((L : Int) - 1).toNat = L - 1 := by omega
      by_cases c10 : xl = 10
      · have b10 : ((xl : Int) == 10) = true := by simp; omega
        cases q with
        | true =>
          clear hw hw2 c10
          go_wp2
          go_loop [110] (fun v110 => ∃ j : Nat, j ≤ L ∧ v110 = .int .i64 j) (fun v110 => L - (intOf v110).toNat)
          case atStart => exact ⟨0, Nat.zero_le _, rfl⟩
          case round =>
            obtain ⟨j, hj, rfl⟩ := hrel
            by_cases hjl : j < L
            · have hcj := HRD.out j (by have := HL.out; omega)
              rw [Nat.zero_add] at hcj
              obtain ⟨xj, hxj⟩ : ∃ xj, xj = (lt.getD j 0).toNat := ⟨_, rfl⟩
              rw [← hxj] at hcj
              have hend : xj = 10 → L ≤ j + 1 := fun hh => by
                rcases Nat.lt_or_ge (j + 1) L with h | h
                · exfalso
                  have hjl' : j < lt.length := by have := HL.out; omega
                  have e1 : lt[j] = 10 := by
                    rw [hxj, List.getD_eq_getElem?_getD, List.getElem?_eq_getElem hjl'] at hh
                    exact UInt8.toNat_inj.1 hh
                  refine HOK.out.1 ?_
                  rw [← e1]
                  have : lt.dropLast[j]? = some lt[j] := by
                    rw [List.dropLast_eq_take, List.getElem?_take, if_pos (by have := HL.out; omega), List.getElem?_eq_getElem hjl']
                  exact List.mem_of_getElem? this
                · exact h
              clear hxj
              by_cases cj : xj = 10
              · have bj : ((xj : Int) == 10) = true := by simp; omega
                have hjL := hend cj
                clear hend cj
                go_wp2
                go_round
                case rel => exact ⟨j + 1, by omega, by go_num⟩
                case measure => simp [intOf]; omega
              · have bj : ((xj : Int) == 10) = false := by simp; omega
                clear hend cj
                go_wp2
                go_round
                case rel => exact ⟨j + 1, by omega, by go_num⟩
                case measure => simp [intOf]; omega
            · go_wp2
              go_roundw
              case rel =>
                refine ⟨i + 1, _, by go_num, rfl, by omega, HBr.out.alloc (by have := HBr.out.size; omega) _, ?_⟩
                have e1 : st.take (i + 1) = st.take i ++ [st[i]] := by rw [List.take_succ_eq_append_getElem hist]
                show _ = _
                rw [e1, List.map_append, List.flatten_append, ← HSA.out, HLT.out]
                simp
              case measure => simp [intOf]; omega
        | false =>
          have hsz2 : ¬ (a1.size : Int) < (size : Int) := fun hh => hw2 ⟨rfl, c10, by omega⟩
          clear hw hw2 c10
          go_wp2
          go_loop [110] (fun v110 => ∃ j : Nat, j ≤ L ∧ v110 = .int .i64 j) (fun v110 => L - (intOf v110).toNat)
          case atStart => exact ⟨0, Nat.zero_le _, rfl⟩
          case round =>
            obtain ⟨j, hj, rfl⟩ := hrel
            by_cases hjl : j < L
            · have hcj := HRD.out j (by have := HL.out; omega)
              rw [Nat.zero_add] at hcj
              obtain ⟨xj, hxj⟩ : ∃ xj, xj = (lt.getD j 0).toNat := ⟨_, rfl⟩
              rw [← hxj] at hcj
              have hend : xj = 10 → L ≤ j + 1 := fun hh => by
                rcases Nat.lt_or_ge (j + 1) L with h | h
                · exfalso
                  have hjl' : j < lt.length := by have := HL.out; omega
                  have e1 : lt[j] = 10 := by
                    rw [hxj, List.getD_eq_getElem?_getD, List.getElem?_eq_getElem hjl'] at hh
                    exact UInt8.toNat_inj.1 hh
                  refine HOK.out.1 ?_
                  rw [← e1]
                  have : lt.dropLast[j]? = some lt[j] := by
                    rw [List.dropLast_eq_take, List.getElem?_take, if_pos (by have := HL.out; omega), List.getElem?_eq_getElem hjl']
                  exact List.mem_of_getElem? this
                · exact h
              clear hxj
              by_cases cj : xj = 10
              · have bj : ((xj : Int) == 10) = true := by simp; omega
                have hjL := hend cj
                clear hend cj
                go_wp2
                go_round
                case rel => exact ⟨j + 1, by omega, by go_num⟩
                case measure => simp [intOf]; omega
              · have bj : ((xj : Int) == 10) = false := by simp; omega
                clear hend cj
                go_wp2
                go_round
                case rel => exact ⟨j + 1, by omega, by go_num⟩
                case measure => simp [intOf]; omega
            · go_wp2
              go_roundw
              case rel =>
                refine ⟨i + 1, _, by go_num, rfl, by omega, HBr.out.alloc (by have := HBr.out.size; omega) _, ?_⟩
                have e1 : st.take (i + 1) = st.take i ++ [st[i]] := by rw [List.take_succ_eq_append_getElem hist]
                show _ = _
                rw [e1, List.map_append, List.flatten_append, ← HSA.out, HLT.out]
                simp
              case measure => simp [intOf]; omega
      · have b10 : ((xl : Int) == 10) = false := by simp; omega
        cases q with
        | true => exact absurd ⟨rfl, c10⟩ hw
        | false =>
          clear hw hw2 c10
          go_wp2
          go_loop [110] (fun v110 => ∃ j : Nat, j ≤ L ∧ v110 = .int .i64 j) (fun v110 => L - (intOf v110).toNat)
          case atStart => exact ⟨0, Nat.zero_le _, rfl⟩
          case round =>
            obtain ⟨j, hj, rfl⟩ := hrel
            by_cases hjl : j < L
            · have hcj := HRD.out j (by have := HL.out; omega)
              rw [Nat.zero_add] at hcj
              obtain ⟨xj, hxj⟩ : ∃ xj, xj = (lt.getD j 0).toNat := ⟨_, rfl⟩
              rw [← hxj] at hcj
              have hend : xj = 10 → L ≤ j + 1 := fun hh => by
                rcases Nat.lt_or_ge (j + 1) L with h | h
                · exfalso
                  have hjl' : j < lt.length := by have := HL.out; omega
                  have e1 : lt[j] = 10 := by
                    rw [hxj, List.getD_eq_getElem?_getD, List.getElem?_eq_getElem hjl'] at hh
                    exact UInt8.toNat_inj.1 hh
                  refine HOK.out.1 ?_
                  rw [← e1]
                  have : lt.dropLast[j]? = some lt[j] := by
                    rw [List.dropLast_eq_take, List.getElem?_take, if_pos (by have := HL.out; omega), List.getElem?_eq_getElem hjl']
                  exact List.mem_of_getElem? this
                · exact h
              clear hxj
              by_cases cj : xj = 10
              · have bj : ((xj : Int) == 10) = true := by simp; omega
                have hjL := hend cj
                clear hend cj
                go_wp2
                go_round
                case rel => exact ⟨j + 1, by omega, by go_num⟩
                case measure => simp [intOf]; omega
              · have bj : ((xj : Int) == 10) = false := by simp; omega
                clear hend cj
                go_wp2
                go_round
                case rel => exact ⟨j + 1, by omega, by go_num⟩
                case measure => simp [intOf]; omega
            · go_wp2
              go_roundw
              case rel =>
                refine ⟨i + 1, _, by go_num, rfl, by omega, HBr.out.alloc (by have := HBr.out.size; omega) _, ?_⟩
                have e1 : st.take (i + 1) = st.take i ++ [st[i]] := by rw [List.take_succ_eq_append_getElem hist]
                show _ = _
                rw [e1, List.map_append, List.flatten_append, ← HSA.out, HLT.out]
                simp
              case measure => simp [intOf]; omega
    · have hin' : i = n := by omega
      subst hin'
      have hsa : sa = a1 := by
        have h1 := HSA.out
        have h2 := HLAW.out.1
        rw [HNN.out, List.take_length, h2] at h1
        cases sa; cases a1
        simp at h1
        rw [h1]
      subst hsa
      have HG9 := Lib.hid (HG.out.below (H09.out.trans (HBr.out.mono H09.out.size)))
      go_wp2_with fail
      refine (HA.out _ HG9.out _ _ _ rfl).mono ?_
      rintro e w10 ⟨p10, q10, rfl, hb10⟩
      have HB10 := Lib.hid hb10
      clear hb10
      go_wp2
      go_ret
      have h9r := H09.out.trans (HBr.out.mono H09.out.size)
      exact ⟨rfl, h9r.trans (HB10.out.mono h9r.size)⟩

end Go.Proofs.YtdljobmhnnegiaaDoor
