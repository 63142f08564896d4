/- The contract of lineBuffer.write, over whatever callbacks keep their part: for every state of the buffer and all bytes written. -/
import Derived.Test.YtdljobmhnnegiaaDoorWriteI
import Derived.Test.YtdljobmhnnegiaaDoorWriteR
namespace Go.Proofs.YtdljobmhnnegiaaDoor
open Go.RowKit

set_option maxRecDepth 100000 in
set_option maxHeartbeats 40000000 in
theorem write_any {σ : Type} {pot : σ → Nat} {M c o B cap fl fp : Nat} {l1 l2 p1 p2 : Array Value} {J : σ → World → Prop} {L P : σ → List UInt8 → σ}
    (hL : CB pot M c o B cap (.func (.func fl) l1 l2) (.func (.func fp) p1 p2) J L fl l1 l2) (hP : CB pot M c o B cap (.func (.func fl) l1 l2) (.func (.func fp) p1 p2) J P fp p1 p2)
    (hentL : ∀ args w, (callFunc fl args).run Tryd.prog w = .ok (.enter fl args) w) (hentP : ∀ args w, (callFunc fp args).run Tryd.prog w = .ok (.enter fp args) w)
    (hpL : ∀ s l, pot (L s l) = pot s + l.length) (hpP : ∀ s l, pot (P s l) = pot s + l.length) (hJ : ∀ s w w', J s w → Only c o B w w' → J s w') (hG : ∀ s w, J s w → G4 w) {b2 off2 : Nat} {l : List UInt8} (hb2 : ∀ s w, J s w → Rd w b2 off2 l)
    (h4 : 4 ≤ cap) (hcap : cap ≤ 1000000) (b : LB) (s : σ) (w : World) (h1 : J s w) (h2 : LBS c o B cap (.func (.func fl) l1 l2) (.func (.func fp) p1 p2) b.bs.length 0 b.bs b.mid b.esc w) (hlt : b.bs.length < cap)
    (n2 c2 : Nat) (hn2 : n2 = l.length) (hc2 : n2 ≤ c2) (hbig : n2 ≤ 140737488351232) (hM : pot s + b.bs.length + n2 ≤ M) :
    Calls Tryd.prog 50 #[.pointer (some ⟨c, o, none⟩), .slice (some ⟨b2, off2, none⟩) n2 c2] w (WritePost c o B cap (.func (.func fl) l1 l2) (.func (.func fp) p1 p2) J (writeF L P cap n2 (b, s) l)) := by
  have H1 := Lib.hid h1
  have H2 := Lib.hid h2
  have HL := Lib.hid hL
  have HP := Lib.hid hP
  have HJ := Lib.hid hJ
  have HG := Lib.hid hG
  have HB := Lib.hid hb2
  have HN := Lib.hid hn2
  have HPL := Lib.hid hpL
  have HPP := Lib.hid hpP
  have HM0 := Lib.hid hM
  clear h1 h2 hL hP hJ hG hb2 hn2 hpL hpP hM
  go_enter Tryd.func50, Tryd.ntmps50
  go_wp2
  go_loopw [1] (fun v1 wr => ∃ (k off n cp : Nat) (b' : LB) (s' : σ), v1 = .slice (some ⟨b2, off, none⟩) n cp ∧ n ≤ cp ∧ n ≤ n2 ∧ Hid (k + n = n2 ∧ (0 < n → off = off2 + k)) ∧ Hid (J s' wr) ∧ Hid (LBS c o B cap (.func (.func fl) l1 l2) (.func (.func fp) p1 p2) b'.bs.length 0 b'.bs b'.mid b'.esc wr) ∧
      b'.bs.length < cap ∧ Hid (∃ f, n ≤ f ∧ pot s' + b'.bs.length + n ≤ M ∧ writeF L P cap n2 (b, s) l = writeF L P cap f (b', s') (l.drop k))) (fun v1 wr => match v1 with | .slice _ n _ => n | _ => 0)
  case atStart => exact ⟨0, off2, n2, c2, b, s, rfl, hc2, Nat.le_refl _, ⟨Nat.zero_add _, fun _ => rfl⟩, H1, H2, hlt, ⟨n2, Nat.le_refl _, HM0.out, rfl⟩⟩
  case round =>
    obtain ⟨k, off, n, cp, ⟨bs, mid, esc⟩, s', rfl, hcp, hnn, HK, HJr, HLB, hbs, HW⟩ := hrel
    dsimp only at *
    clear H1 H2 hc2
    cases n with
    | zero =>
      go_wp2
      go_end0
      obtain ⟨f, _, _, hf⟩ := HW.out
      have hd : l.drop k = [] := List.drop_eq_nil_of_le (by have := HK.out.1; have := HN.out; omega)
      rw [hd, writeF_nil] at hf
      rw [hf]
      exact ⟨rfl, HJr.out, HLB.out, hbs⟩
    | succ n =>
      obtain ⟨nb, hnb⟩ : ∃ nb, nb = bs.length := ⟨_, rfl⟩
      have c0 := HLB.out.c0
      rw [← hnb] at c0 hbs
      have HNB := Lib.hid hnb
      clear hnb
      have hcn : ¬ cap = nb := by omega
      have hnn1 : n + 1 ≤ 140737488351232 := by omega
      obtain ⟨raw, hraw⟩ : ∃ raw, Hid (wr.heap[B]? = some (.cells raw 5 (0, 0)) ∧ raw.size = cap) := HLB.out.buf
      obtain ⟨m, hm⟩ : ∃ m, m = min (cap - nb) (n + 1) := ⟨_, rfl⟩
      obtain ⟨ch, hch⟩ : ∃ ch, ch = (l.drop k).take m := ⟨_, rfl⟩
      have hml : ch.length = m := by rw [hch, List.length_take, List.length_drop, hm]; have := HK.out.1; have := HN.out; omega
      have hm1 : m ≤ n + 1 := by omega
      have hm2 : nb + m ≤ cap := by omega
      have hm0 : 0 < m := by omega
      have HM : Hid (m = min (cap - nb) (n + 1)) := hm
      have HCH : Hid (ch = (l.drop k).take m) := hch
      have HML : Hid (ch.length = m) := hml
      clear hm hch hml
      have hsrc : Rd wr.drew b2 off ch := by
        have h := (HB.out s' wr HJr.out).drop k
        rw [← HK.out.2 (by omega)] at h
        rw [HCH.out]
        exact h.take m
      have HS := Lib.hid hsrc
      clear hsrc
      obtain ⟨off2', hoff2⟩ : ∃ x, x = if cp = m then off else off + m := ⟨_, rfl⟩
      have HO := Lib.hid hoff2
      clear hoff2
      go_upto_region 1 with fail
      go_cut [4, 30] (fun v4 v30 w' => v4 = .int .i64 m ∧ v30 = .int .i64 m ∧ Hid (J s' w') ∧ Hid (LBS c o B cap (.func (.func fl) l1 l2) (.func (.func fp) p1 p2) nb 0 bs mid esc w') ∧ Hid (Rd w' B 0 (bs ++ ch)))
      case first =>
        as_aux_lemma =>
          have hi1 : (0 : Int) ≤ (nb : Int) := by omega
          have hi2 : (nb : Int) ≤ (cap : Int) := by omega
          have hi3 : (cap : Int) ≤ (cap : Int) := Int.le_refl _
          have HCP := Lib.hid (show (vals ch).length = Nat.min (n + 1) (cap - nb) by rw [vals_length, HML.out, HM.out]; exact Nat.min_comm _ _)
          have HFIT : Hid (nb + (vals ch).length ≤ raw.size) := by show _ ≤ _; rw [vals_length, HML.out, hraw.out.2]; exact hm2
          go_wp2_with fail
          go_region_held3 (fun w' => w'.cell? ⟨c, o, none⟩ = some (.slice (some ⟨B, 0, none⟩) nb cap)) (first | go_keep | (rw [hw1.out, cell_setRow_ne _ (Ne.symm HLB.out.ne)]; exact c0)) ((go_loud (refine step_copy_row rfl (.tmp 28) (.tmp 29) 23 23 rfl 5 Tryd.underlying23 size5 (some ⟨B, nb, none⟩) (some ⟨b2, off, none⟩) _ _ _ _ (by rfl) (by rfl) B nb raw 5 hraw.out.1 (vals ch) HCP.out (fun _ => ⟨rfl, _, rfl, HS.out.vals⟩) HFIT.out (vals_one ch) ?_); intro w1 row hw1 hrow))
          rw [vals_length, HML.out]
          have hv1 := vals_of_rd hraw.out.1 HLB.out.rd (by have := HLB.out.len; have := hraw.out.2; have := HNB.out; omega)
          rw [List.drop_zero] at hv1
          have hrow' := hrow.out
          rw [HNB.out, hv1] at hrow'
          have hsz : row.size = cap := by
            have h1 : row.toList.length = cap := by
              have h2 : raw.toList.length = cap := by simpa using hraw.out.2
              rw [hrow', List.length_append, List.length_append, List.length_drop, vals_length, vals_length, h2, HML.out, ← HNB.out]
              omega
            simpa using h1
          have hLB1 : Hid (LBS c o B cap (.func (.func fl) l1 l2) (.func (.func fp) p1 p2) nb 0 bs mid esc w1) := by
            rw [hw1.out]
            refine (show LBS c o B cap (.func (.func fl) l1 l2) (.func (.func fp) p1 p2) nb 0 bs mid esc wr.drew by have := HLB.out.drew; rw [← HNB.out] at this; exact this).row row hsz 0 bs (by rw [Nat.zero_add]; exact HNB.out) ?_
            rw [hrow', List.drop_zero, List.take_append_of_le_length (by rw [vals_length]; exact Nat.le_refl _), List.take_of_length_le (by rw [vals_length]; exact Nat.le_refl _)]
          have hR1 : Hid (Rd w1 B 0 (bs ++ ch)) := by
            rw [hw1.out]
            refine Rd.of_block (setRow_heap wr.drew _ raw _ 5 (0, 0) hraw.out.1) ?_
            rw [hrow', ← List.append_assoc, show vals bs ++ vals ch = vals (bs ++ ch) by simp [vals], List.take_append_of_le_length (by rw [vals_length]; exact Nat.le_refl _), List.take_of_length_le (by rw [vals_length]; exact Nat.le_refl _)]
          have hJ1 : Hid (J s' w1) := by
            rw [hw1.out]
            exact HJ.out _ _ _ (HJ.out _ _ _ HJr.out (Only.of_below (Below.refl _ _)).drew) (Only.of_row _ HLB.out.ne row)
          go_wp2_with fail
          go_meet
          case rel => exact ⟨rfl, rfl, hJ1, hLB1, hR1⟩
      case rest =>
        obtain ⟨rfl, rfl, HJ1, HL1, HR1⟩ := hcut
        have c0' := HL1.out.c0
        have f0' := HL1.out.fr o
        have hsl : ∀ w', (Instr.slice 23 (.slice (some ⟨b2, off, none⟩) (n + 1) cp) (some (.int .i64 m)) none none).run Tryd.prog w' = .ok (.slice (some ⟨b2, off2', none⟩) (n + 1 - m) (cp - m)) w' := fun w' => by
          rw [HO.out]; exact slice_from w' b2 off (n + 1) cp m hm1 hcp
        go_wp2_with fail
        go_region
        have HL2 : Hid (LBS c o B cap (.func (.func fl) l1 l2) (.func (.func fp) p1 p2) (nb + m) 0 (bs ++ ch) mid esc (wc.setCell ⟨c, o, none⟩ (.slice (some ⟨B, 0, none⟩) (nb + m) cap)).drew) :=
          (HL1.out.set_b (nb + m) 0 (bs ++ ch) (by rw [List.length_append, HML.out, ← HNB.out]; omega) hm2 HR1.out).drew
        have HJ2 : Hid (J s' (wc.setCell ⟨c, o, none⟩ (.slice (some ⟨B, 0, none⟩) (nb + m) cap)).drew) :=
          HJ.out _ _ _ (HJ.out _ _ _ HJ1.out (Only.of_set _ _ (by omega) _)) (Only.of_below (Below.refl _ _)).drew
        go_upto_block 2 with fail
        clear c0' f0' hsl HL1 HJ1 HR1 hraw HLB HJr c0 HS
        obtain ⟨w2, hw2⟩ : ∃ w2, w2 = (wc.setCell ⟨c, o, none⟩ (.slice (some ⟨B, 0, none⟩) (nb + m) cap)).drew := ⟨_, rfl⟩
        rw [← hw2]
        obtain ⟨N, hNN⟩ : ∃ N, N = nb + m := ⟨_, rfl⟩
        have hNc : N ≤ cap := by omega
        have hN0 : 0 < N := by omega
        have HL3 : Hid (LBS c o B cap (.func (.func fl) l1 l2) (.func (.func fp) p1 p2) N 0 (bs ++ ch) mid esc w2) := by
          have := HL2.out
          rw [← hw2, ← hNN] at this
          exact this
        have HJ3 : Hid (J s' w2) := by
          have := HJ2.out
          rw [← hw2] at this
          exact this
        have HNN : Hid (N = nb + m) := hNN
        clear hw2 hNN HL2 HJ2
        obtain ⟨x0, hx0⟩ : ∃ x0 : IS σ, x0 = ⟨0, bs ++ ch, mid, esc, s'⟩ := ⟨_, rfl⟩
        have HX0 := Lib.hid hx0
        clear hx0
        have HTOT : Hid (tot pot (innerF L P N x0) ≤ M) := round_bound L P HPL.out HPP.out HW.out hm1 HML.out HX0.out
        refine write_inner HL.out HP.out hentL hentP HPL.out HPP.out HJ.out HG.out h4 hcap N hNc hN0 bs ch mid esc s' x0 HX0.out w2 HL3 HJ3 HTOT _ _ _ _ _ _ _ _ _ _ _ _ _ _ _ _ _ _ _ _ _ _ _ _ _ _ _ _ _ _ _ _ _ _ _ _ _ _ _ _ _ _ _ _ _ _ _ _ _ _ _ _ _ _ _ _ _ _ _ _ _ _ _ _ _ _ _ _ _ _ _ _ _ _ _ _ _ _ _ _ _ _ _ _ _ _ _ _ _ _ _ _ _ _ _ _ _ _ _ _ _ _ _ _ _ _ _ _ _ _ _ _ _ _ _ _ _ _ _ _ _ _ _ _ _ _ _ _ _ _ _ _ _ _ _ _ _ _ _ _ _ _ _ _ _ _ _ _ _ _ _ _ _ _ _ _ _ _ _ _ _ _ _ _ _ _ _ _ _ _ _ _ _ _ _ _ _ _ _ _ _ _ _ _ _ _ _ _ _ _ _ _ _ _ _ _ _ _ _ _ _ _ _ _ _ _ _ _ _ _ _ _ _ _ _ _ _ _ _ _ _ _ _ _ _ _ _ ?_
        intro u5 u6 u7 u8 u9 u49 u50 u51 u52 u53 u54 u55 u56 u57 u58 u59 u60 u61 u62 u63 u64 u65 u66 u67 u68 u69 u70 u71 u72 u73 u74 u75 u76 u77 u78 u79 u80 u81 u82 u83 u84 u85 u86 u87 u88 u89 u90 u91 u92 u93 u94 u95 u96 u97 u98 u99 u100 u101 u102 u103 u104 u105 u106 u107 u108 u109 u110 u111 u112 u113 u114 u115 u116 u117 u118 u119 u120 u121 u122 u123 u124 u125 u126 u127 u128 u129 u130 u131 u132 u133 u134 u135 u136 u137 u138 u139 u140 u141 u142 u143 u144 u145 u146 u147 u148 u149 u150 u151 u152 wx hu5 hJx hLx
        obtain ⟨X, hX⟩ : ∃ X, X = innerF L P N x0 := ⟨_, rfl⟩
        rw [← hX] at hu5 hJx hLx HTOT
        have HX := Lib.hid hX
        have HJx := Lib.hid hJx
        have HLx := Lib.hid hLx
        clear hX HJ3 HL3 hJx hLx
        obtain ⟨i, rest, mi, es, s1⟩ := X
        dsimp only at hu5 HJx HLx
        obtain rfl := hu5
        dsimp only
        go_step
        refine write_rest HL.out HP.out hentP HPL.out HPP.out HJ.out HG.out h4 hcap N hNc i rest mi es s1 wx HLx HJx HTOT _ _ _ _ _ _ _ _ _ _ _ _ _ _ _ _ _ _ _ _ _ _ _ _ _ _ _ _ _ _ _ _ _ _ _ _ _ _ _ _ _ _ _ _ _ _ _ _ _ _ _ _ _ _ _ _ _ _ _ _ _ _ _ _ _ _ _ _ _ _ _ _ _ _ _ _ _ _ _ _ _ _ _ _ _ _ _ _ _ _ _ _ _ _ _ _ _ _ _ _ _ _ _ _ _ _ _ _ _ _ _ _ _ _ _ _ _ _ _ _ _ _ _ _ _ _ _ _ _ _ _ _ _ _ _ _ _ _ _ _ _ _ _ _ _ _ _ _ _ _ _ _ _ _ _ _ _ _ _ _ _ _ _ _ _ _ _ _ _ _ _ _ _ _ _ _ _ _ _ _ _ _ _ _ _ _ _ _ _ _ _ _ _ _ _ _ _ _ _ _ _ _ _ _ _ _ _ _ _ _ _ _ _ _ _ _ _ _ _ _ _ _ _ _ _ _ ?_
        intro v10 v153 v154 v155 v156 v157 v158 v159 v160 v161 v162 v163 v164 v165 v166 v167 v168 v169 v170 v171 v172 v173 v174 v175 v176 v177 v178 v179 v180 v181 v182 v183 v184 v185 v186 v187 v188 v189 v190 v191 v192 v193 v194 v195 v196 v197 v198 v199 v200 v201 v202 v203 v204 v205 v206 v207 v208 v209 v210 v211 v212 v213 v214 v215 v216 v217 v218 v219 v220 v221 v222 v223 v224 v225 v226 wy hJy hLy hly
        have hwr := write_round L P HPL.out HPP.out HW.out HNB.out (by rw [List.length_drop]; have := HK.out.1; have := HN.out; omega) HM.out hm0 HCH.out HML.out HNN.out HX0.out HX.out
        obtain ⟨Z, hZ⟩ : ∃ Z, Z = endF P cap N (⟨i, rest, mi, es, s1⟩ : IS σ) := ⟨_, rfl⟩
        rw [← hZ] at hJy hLy hly hwr
        have HWR := Lib.hid hwr
        have HJy := Lib.hid hJy
        have HLy := Lib.hid hLy
        clear hZ hwr hJy hLy HJx HLx HTOT HX
        obtain ⟨⟨bs1, mid1, esc1⟩, s2⟩ := Z
        dsimp only at HJy HLy hly
        dsimp only
        go_wp2_with fail
        go_roundw
        case rel =>
          refine ⟨k + m, off2', n + 1 - m, cp - m, ⟨bs1, mid1, esc1⟩, s2, rfl, by omega, by omega, ⟨by have := HK.out.1; omega, fun h0 => ?_⟩, HJy, HLy, hly, HWR⟩
          rw [HO.out, if_neg (by omega), HK.out.2 (by omega)]; omega
        case measure => simp; omega

end Go.Proofs.YtdljobmhnnegiaaDoor
