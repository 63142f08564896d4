/- The inner loop of lineBuffer.write: it hands on the lines that are in the buffer. A piece of the contract of lineBuffer.write. -/
import Derived.Test.YtdljobmhnnegiaaDoorWriteB
namespace Go.Proofs.YtdljobmhnnegiaaDoor
open Go.RowKit

set_option maxRecDepth 100000 in
set_option maxHeartbeats 40000000 in
theorem write_inner {σ : Type} {pot : σ → Nat} {M c o B cap fl fp : Nat} {l1 l2 p1 p2 : Array Value} {J : σ → World → Prop} {L P : σ → List UInt8 → σ}
    (hL : CB pot M c o B cap (.func (.func fl) l1 l2) (.func (.func fp) p1 p2) J L fl l1 l2) (hP : CB pot M c o B cap (.func (.func fl) l1 l2) (.func (.func fp) p1 p2) J P fp p1 p2)
    (hentL : ∀ args w, (callFunc fl args).run Tryd.prog w = .ok (.enter fl args) w) (hentP : ∀ args w, (callFunc fp args).run Tryd.prog w = .ok (.enter fp args) w)
    (hpL : ∀ s l, pot (L s l) = pot s + l.length) (hpP : ∀ s l, pot (P s l) = pot s + l.length) (hJ : ∀ s w w', J s w → Only c o B w w' → J s w') (hG : ∀ s w, J s w → G4 w)
    (h4 : 4 ≤ cap) (hcap : cap ≤ 1000000) (N : Nat) (hNc : N ≤ cap) (hN0 : 0 < N) (bs ch : List UInt8) (mid esc : Bool) (s' : σ) (x0 : IS σ) (hx0 : x0 = ⟨0, bs ++ ch, mid, esc, s'⟩) (w2 : World)
    (HL3 : Hid (LBS c o B cap (.func (.func fl) l1 l2) (.func (.func fp) p1 p2) N 0 (bs ++ ch) mid esc w2)) (HJ3 : Hid (J s' w2)) (HTOT : Hid (tot pot (innerF L P N x0) ≤ M)) (K : Act → World → Prop) (Q : Exit → Act → World → Prop) (d1 d2 d3 d4 d6 d7 d8 d9 d10 d11 d12 d13 d14 d15 d16 d17 d18 d19 d20 d21 d22 d23 d24 d25 d26 d27 d28 d29 d30 d31 d32 d33 d34 d35 d36 d37 d38 d39 d40 d41 d42 d43 d44 d45 d46 d47 d48 d49 d50 d51 d52 d53 d54 d55 d56 d57 d58 d59 d60 d61 d62 d63 d64 d65 d66 d67 d68 d69 d70 d71 d72 d73 d74 d75 d76 d77 d78 d79 d80 d81 d82 d83 d84 d85 d86 d87 d88 d89 d90 d91 d92 d93 d94 d95 d96 d97 d98 d99 d100 d101 d102 d103 d104 d105 d106 d107 d108 d109 d110 d111 d112 d113 d114 d115 d116 d117 d118 d119 d120 d121 d122 d123 d124 d125 d126 d127 d128 d129 d130 d131 d132 d133 d134 d135 d136 d137 d138 d139 d140 d141 d142 d143 d144 d145 d146 d147 d148 d149 d150 d151 d152 d153 d154 d155 d156 d157 d158 d159 d160 d161 d162 d163 d164 d165 d166 d167 d168 d169 d170 d171 d172 d173 d174 d175 d176 d177 d178 d179 d180 d181 d182 d183 d184 d185 d186 d187 d188 d189 d190 d191 d192 d193 d194 d195 d196 d197 d198 d199 d200 d201 d202 d203 d204 d205 d206 d207 d208 d209 d210 d211 d212 d213 d214 d215 d216 d217 d218 d219 d220 d221 d222 d223 d224 d225 d226 : Value)
    (hK : ∀ (u5 u6 u7 u8 u9 u49 u50 u51 u52 u53 u54 u55 u56 u57 u58 u59 u60 u61 u62 u63 u64 u65 u66 u67 u68 u69 u70 u71 u72 u73 u74 u75 u76 u77 u78 u79 u80 u81 u82 u83 u84 u85 u86 u87 u88 u89 u90 u91 u92 u93 u94 u95 u96 u97 u98 u99 u100 u101 u102 u103 u104 u105 u106 u107 u108 u109 u110 u111 u112 u113 u114 u115 u116 u117 u118 u119 u120 u121 u122 u123 u124 u125 u126 u127 u128 u129 u130 u131 u132 u133 u134 u135 u136 u137 u138 u139 u140 u141 u142 u143 u144 u145 u146 u147 u148 u149 u150 u151 u152 : Value) (w' : World), u5 = .int .i64 (innerF L P N x0).i → J (innerF L P N x0).s w' → LBS c o B cap (.func (.func fl) l1 l2) (.func (.func fp) p1 p2) N (innerF L P N x0).i (innerF L P N x0).rest (innerF L P N x0).mid (innerF L P N x0).esc w' → K ⟨#[.pointer (some ⟨c, o, none⟩), d1, d2, d3, d4, u5, u6, u7, u8, u9, d10, d11, d12, d13, d14, d15, d16, d17, d18, d19, d20, d21, d22, d23, d24, d25, d26, d27, d28, d29, d30, d31, d32, d33, d34, d35, d36, d37, d38, d39, d40, d41, d42, d43, d44, d45, d46, d47, d48, u49, u50, u51, u52, u53, u54, u55, u56, u57, u58, u59, u60, u61, u62, u63, u64, u65, u66, u67, u68, u69, u70, u71, u72, u73, u74, u75, u76, u77, u78, u79, u80, u81, u82, u83, u84, u85, u86, u87, u88, u89, u90, u91, u92, u93, u94, u95, u96, u97, u98, u99, u100, u101, u102, u103, u104, u105, u106, u107, u108, u109, u110, u111, u112, u113, u114, u115, u116, u117, u118, u119, u120, u121, u122, u123, u124, u125, u126, u127, u128, u129, u130, u131, u132, u133, u134, u135, u136, u137, u138, u139, u140, u141, u142, u143, u144, u145, u146, u147, u148, u149, u150, u151, u152, d153, d154, d155, d156, d157, d158, d159, d160, d161, d162, d163, d164, d165, d166, d167, d168, d169, d170, d171, d172, d173, d174, d175, d176, d177, d178, d179, d180, d181, d182, d183, d184, d185, d186, d187, d188, d189, d190, d191, d192, d193, d194, d195, d196, d197, d198, d199, d200, d201, d202, d203, d204, d205, d206, d207, d208, d209, d210, d211, d212, d213, d214, d215, d216, d217, d218, d219, d220, d221, d222, d223, d224, d225, d226], []⟩ w') :
    Code.wp Tryd.prog (code50 [0, 0, 1, 0, 1, 1, 1, 1, 0]) (Exit.then K Q) ⟨#[.pointer (some ⟨c, o, none⟩), d1, d2, d3, d4, .int .i64 (0 : Int), d6, d7, d8, d9, d10, d11, d12, d13, d14, d15, d16, d17, d18, d19, d20, d21, d22, d23, d24, d25, d26, d27, d28, d29, d30, d31, d32, d33, d34, d35, d36, d37, d38, d39, d40, d41, d42, d43, d44, d45, d46, d47, d48, d49, d50, d51, d52, d53, d54, d55, d56, d57, d58, d59, d60, d61, d62, d63, d64, d65, d66, d67, d68, d69, d70, d71, d72, d73, d74, d75, d76, d77, d78, d79, d80, d81, d82, d83, d84, d85, d86, d87, d88, d89, d90, d91, d92, d93, d94, d95, d96, d97, d98, d99, d100, d101, d102, d103, d104, d105, d106, d107, d108, d109, d110, d111, d112, d113, d114, d115, d116, d117, d118, d119, d120, d121, d122, d123, d124, d125, d126, d127, d128, d129, d130, d131, d132, d133, d134, d135, d136, d137, d138, d139, d140, d141, d142, d143, d144, d145, d146, d147, d148, d149, d150, d151, d152, d153, d154, d155, d156, d157, d158, d159, d160, d161, d162, d163, d164, d165, d166, d167, d168, d169, d170, d171, d172, d173, d174, d175, d176, d177, d178, d179, d180, d181, d182, d183, d184, d185, d186, d187, d188, d189, d190, d191, d192, d193, d194, d195, d196, d197, d198, d199, d200, d201, d202, d203, d204, d205, d206, d207, d208, d209, d210, d211, d212, d213, d214, d215, d216, d217, d218, d219, d220, d221, d222, d223, d224, d225, d226], []⟩ w2 := by
  have HL := Lib.hid hL
  have HP := Lib.hid hP
  have HJ := Lib.hid hJ
  have HG := Lib.hid hG
  have HPL := Lib.hid hpL
  have HPP := Lib.hid hpP
  have HX0 := Lib.hid hx0
  have HK := Lib.hid hK
  clear hL hP hJ hG hpL hpP hx0 hK
  conv => arg 2; whnf
  go_wp2_with fail
  go_loopw [5] (fun v5 wr' => ∃ (x : IS σ) (q : Nat), v5 = .int .i64 x.i ∧ x.i ≤ N ∧ Hid (x.rest.length ≤ q ∧ innerF L P N x0 = innerF L P q x) ∧ Hid (J x.s wr') ∧ Hid (LBS c o B cap (.func (.func fl) l1 l2) (.func (.func fp) p1 p2) N x.i x.rest x.mid x.esc wr')) (fun v5 _ => N - (intOf v5).toNat)
  case atStart =>
    refine ⟨x0, N, ?_, ?_, ⟨?_, rfl⟩, ?_, ?_⟩
    · rw [HX0.out]; rfl
    · rw [HX0.out]; exact Nat.zero_le _
    · rw [HX0.out]; show (bs ++ ch).length ≤ N; have := HL3.out.len; omega
    · rw [HX0.out]; exact HJ3
    · rw [HX0.out]; exact HL3
  case round =>
    obtain ⟨⟨i, rest, mi, es, s1⟩, q, rfl, hiN, HI, HJi, HLi⟩ := hrel
    dsimp only at *
    clear HL3 HJ3
    have c0i := HLi.out.c0
    by_cases hin : i < N
    · obtain ⟨E, hE⟩ : ∃ E, E = eolF es 0 rest := ⟨_, rfl⟩
      have hcall := eol_any HLi.out.rd HLi.out.ne HLi.out.c4 (HLi.out.fr _) (N - i) (cap - i) (by have := HLi.out.len; omega) (by omega)
      unfold EolPost at hcall
      rw [← hE] at hcall
      have HC := Lib.hid hcall
      have HE := Lib.hid hE
      clear hcall hE
      have HLe : Hid (LBS c o B cap (.func (.func fl) l1 l2) (.func (.func fp) p1 p2) N i rest mi E.2 (escW wr c o E.2)) := HLi.out.set_esc _
      have HJe : Hid (J s1 (escW wr c o E.2)) := HJ.out _ _ _ HJi.out (Only.of_set _ _ (by omega) _)
      clear HLi HJi
      go_wp2_with fail
      refine HC.out.mono ?_
      rintro e we ⟨rfl, rfl⟩
      clear HC
      obtain ⟨we, hwe⟩ : ∃ we, we = escW wr c o E.2 := ⟨_, rfl⟩
      rw [← hwe] at HLe HJe ⊢
      clear hwe c0i
      have c0i := HLe.out.c0
      have c1i := HLe.out.c1
      obtain ⟨E1, es'⟩ := E
      dsimp only at *
      cases E1 with
      | none =>
        have hrne : rest ≠ [] := fun hh => by have := HLe.out.len; rw [hh] at this; simp at this; omega
        have HT : Hid (innerF L P N x0 = tabF P ⟨i, rest, mi, es', s1⟩) := HI.out.2.trans (innerF_none L P HE.out.symm hrne HI.out.1)
        have HRN := Lib.hid hrne
        clear HE HI hrne
        have hm1 : ((-1 : Int) < 0) = True := by decide
        simp only [posI, widI]
        cases mi with
        | true =>
          as_aux_lemma =>
            go_wp2_with fail
            have hk := HK.out
            rw [HT.out] at hk
            exact hk _ _ _ _ _ _ _ _ _ _ _ _ _ _ _ _ _ _ _ _ _ _ _ _ _ _ _ _ _ _ _ _ _ _ _ _ _ _ _ _ _ _ _ _ _ _ _ _ _ _ _ _ _ _ _ _ _ _ _ _ _ _ _ _ _ _ _ _ _ _ _ _ _ _ _ _ _ _ _ _ _ _ _ _ _ _ _ _ _ _ _ _ _ _ _ _ _ _ _ _ _ _ _ _ _ _ _ _ _ _ (rfl) (HJe) (HLe)
        | false =>
          as_aux_lemma =>
            obtain ⟨jb, hjb⟩ : ∃ jb, jb = Lib.indexByte rest 9 := ⟨_, rfl⟩
            have hib : Calls Tryd.prog 59 #[.slice (some ⟨B, i, none⟩) (N - i) (cap - i), .int .u8 9] we fun e w' => e = .returned (.int .i64 (Lib.indexByte rest 9)) ∧ we = w' := indexByte_any HLe.out.rd (N - i) (cap - i) (by have := HLe.out.len; omega) 9
            rw [← hjb] at hib
            have hjbd := indexByte_lt rest 9
            rw [← hjb] at hjbd
            have HIB := Lib.hid hib
            have HJB := Lib.hid hjb
            clear hib hjb
            by_cases hj0 : 0 ≤ jb
            · obtain ⟨jn, rfl⟩ : ∃ jn : Nat, jb = jn := ⟨jb.toNat, by omega⟩
              have hjn : i + jn < N := by have := HLe.out.len; omega
              have hjn1 : (0 : Int) ≤ (i : Int) := by omega
              clear hjbd
              go_wp2_with (go_at_call 59; refine HIB.out.mono ?_; rintro e w' ⟨rfl, rfl⟩)
              obtain ⟨tn, htn, htr⟩ := trimR1_len 32 (rest.take jn).length (rest.take jn)
              have HTR : Hid (trimRB (rest.take jn) 32 = (rest.take jn).take tn) := htr
              have hrl : (rest.take jn).length = jn := by rw [List.length_take]; have := HLe.out.len; omega
              have htrim := trimRight_any (w := we) (HLe.out.rd.take jn) jn (cap - i) hrl.symm (by omega) (by omega)
              have hbn := bench_any (w := we) (HG.out _ _ HJe.out) (b := B) (off := i) (l := trimRB (rest.take jn) 32) (by rw [HTR.out]; exact (HLe.out.rd.take jn).take tn) (trimRB (rest.take jn) 32).length (cap - i) rfl (by rw [HTR.out, List.length_take, hrl]; omega) (by rw [HTR.out, List.length_take, hrl]; omega)
              obtain ⟨tl, htl⟩ : ∃ tl, tl = (trimRB (rest.take jn) 32).length := ⟨_, rfl⟩
              obtain ⟨bb, hbb⟩ : ∃ bb, bb = benchB (trimRB (rest.take jn) 32) := ⟨_, rfl⟩
              unfold TrimPost at htrim
              rw [← htl] at htrim hbn
              rw [← hbb] at hbn
              have HTrim := Lib.hid htrim
              have HBn := Lib.hid hbn
              have HBB := Lib.hid hbb
              clear htrim hbn hbb htl htr htn hrl HTR
              cases bb with
              | false =>
                as_aux_lemma =>
                  go_wp2_with (first | (go_at_call 59; refine HIB.out.mono ?_; rintro e w' ⟨rfl, rfl⟩) | (go_at_call 60; refine HTrim.out.mono ?_; rintro e w' ⟨rfl, rfl⟩) | (go_at_call 47; refine HBn.out.mono ?_; rintro e w5 ⟨rfl, hb5⟩))
                  have e2 : tabF P ⟨i, rest, false, es', s1⟩ = ⟨i, rest, false, es', s1⟩ := by unfold tabF; rw [if_neg (by simp), ← HJB.out, if_pos (by omega), if_neg (by dsimp only; rw [show ((jn : Int)).toNat = jn by omega, ← HBB.out]; simp)]
                  have hk := HK.out
                  rw [HT.out, e2] at hk
                  exact hk _ _ _ _ _ _ _ _ _ _ _ _ _ _ _ _ _ _ _ _ _ _ _ _ _ _ _ _ _ _ _ _ _ _ _ _ _ _ _ _ _ _ _ _ _ _ _ _ _ _ _ _ _ _ _ _ _ _ _ _ _ _ _ _ _ _ _ _ _ _ _ _ _ _ _ _ _ _ _ _ _ _ _ _ _ _ _ _ _ _ _ _ _ _ _ _ _ _ _ _ _ _ _ _ _ _ _ _ _ _ (rfl) (HJ.out _ _ _ HJe.out (Only.of_below hb5)) (HLe.out.below hb5)
              | true =>
                as_aux_lemma =>
                  go_wp2_with (first | (go_at_call 59; refine HIB.out.mono ?_; rintro e w' ⟨rfl, rfl⟩) | (go_at_call 60; refine HTrim.out.mono ?_; rintro e w' ⟨rfl, rfl⟩) | (go_at_call 47; refine HBn.out.mono ?_; rintro e w5 ⟨rfl, hb5⟩; have c05 := cellB hb5 c0i; have c35 := cellB hb5 HLe.out.c3))
                  have HJ5 : Hid (J s1 w5) := HJ.out _ _ _ HJe.out (Only.of_below hb5)
                  have HL5 : Hid (LBS c o B cap (.func (.func fl) l1 l2) (.func (.func fp) p1 p2) N i rest false es' w5) := HLe.out.below hb5
                  clear hb5 HTrim HBn HIB c0i c1i HLe HJe
                  have hcall := HP.out s1 N i rest false es' w5.drew (jn + 1) (HJ.out _ _ _ HJ5.out (Only.of_below (Below.refl _ _)).drew) HL5.out.drew (by omega) (by have := HL5.out.len; omega) (by have h := HTOT.out; rw [HT.out, tot_tab HPP.out] at h; unfold tot at h; dsimp only at h; have := HL5.out.len; omega)
                  have HC := Lib.hid hcall
                  clear hcall
                  have k1 : IntKind.i64.wrap ((i : Int) + (jn : Int)) = (i : Int) + (jn : Int) := IntWalk.i64_in _ (by omega)
                  have k2 : IntKind.i64.wrap ((i : Int) + (jn : Int) + 1) = (i : Int) + (jn : Int) + 1 := IntWalk.i64_in _ (by omega)
                  have k3 : (0 : Int) ≤ (i : Int) := by omega
                  have k4 : (i : Int) ≤ (i : Int) + (jn : Int) + 1 := by omega
                  have k5 : (i : Int) + (jn : Int) + 1 ≤ (cap : Int) := by omega
                  have k6 : ((i : Int) + (jn : Int) + 1).toNat = i + jn + 1 := by omega
                  have k7 : i + jn + 1 - i = jn + 1 := by omega
                  have k8 : ¬ cap = i := by omega
                  go_region_held3 (fun w' => w'.cell? ⟨c, o, none⟩ = some (.slice (some ⟨B, 0, none⟩) N cap) ∧ w'.cell? ⟨c, o + 3, none⟩ = some (.func (.func fp) p1 p2)) (first | go_keep | exact ⟨hL6.c0, hL6.c3⟩) ((refine HC.out.mono ?_; rintro e w6 ⟨rfl, hJ6, hL6⟩))
                  clear k1 k2 k3 k4 k5 k6 k7 k8
                  have c16 := hL6.c1
                  have f16 := hL6.fr (o + 1)
                  have HL6 := Lib.hid hL6
                  have HJ6 := Lib.hid hJ6
                  clear hL6 hJ6
                  go_wp2_with fail
                  have e2 : tabF P ⟨i, rest, false, es', s1⟩ = ⟨i + (jn + 1), rest.drop (jn + 1), true, es', P s1 (rest.take (jn + 1))⟩ := by
                    unfold tabF
                    rw [if_neg (by simp), ← HJB.out, if_pos (by omega), if_pos (by dsimp only; rw [show ((jn : Int)).toNat = jn by omega, ← HBB.out])]
                    rfl
                  have hk := HK.out
                  rw [HT.out, e2] at hk
                  exact hk _ _ _ _ _ _ _ _ _ _ _ _ _ _ _ _ _ _ _ _ _ _ _ _ _ _ _ _ _ _ _ _ _ _ _ _ _ _ _ _ _ _ _ _ _ _ _ _ _ _ _ _ _ _ _ _ _ _ _ _ _ _ _ _ _ _ _ _ _ _ _ _ _ _ _ _ _ _ _ _ _ _ _ _ _ _ _ _ _ _ _ _ _ _ _ _ _ _ _ _ _ _ _ _ _ _ _ _ _ _ (by go_num) (HJ.out _ _ _ HJ6.out (Only.of_set _ _ (by omega) _)) (HL6.out.set_mid true)
            · as_aux_lemma =>
                have hj1 : jb < 0 := by omega
                clear hjbd
                go_wp2_with (go_at_call 59; refine HIB.out.mono ?_; rintro e w' ⟨rfl, rfl⟩)
                have e2 : tabF P ⟨i, rest, false, es', s1⟩ = ⟨i, rest, false, es', s1⟩ := by unfold tabF; rw [if_neg (by simp), ← HJB.out, if_neg (by omega)]
                have hk := HK.out
                rw [HT.out, e2] at hk
                exact hk _ _ _ _ _ _ _ _ _ _ _ _ _ _ _ _ _ _ _ _ _ _ _ _ _ _ _ _ _ _ _ _ _ _ _ _ _ _ _ _ _ _ _ _ _ _ _ _ _ _ _ _ _ _ _ _ _ _ _ _ _ _ _ _ _ _ _ _ _ _ _ _ _ _ _ _ _ _ _ _ _ _ _ _ _ _ _ _ _ _ _ _ _ _ _ _ _ _ _ _ _ _ _ _ _ _ _ _ _ _ (rfl) (HJe) (HLe)
      | some jq =>
        obtain ⟨j, qq⟩ := jq
        have hbd := eolF_bound rest es 0 j qq (by rw [← HE.out])
        have hrne : rest ≠ [] := fun hh => by have := HLe.out.len; rw [hh] at this; simp at this; omega
        have HT : Hid (innerF L P N x0 = innerF L P (q - 1) (lineF L P ⟨i, rest, mi, es', s1⟩ (j + qq))) := HI.out.2.trans (innerF_some L P HE.out.symm hrne HI.out.1)
        have HQ : Hid ((rest.drop (j + qq)).length ≤ q - 1) := by have := HI.out.1; show _ ≤ _; rw [List.length_drop]; have := hbd.2.2 rfl; omega
        have HLN : Hid (N = i + rest.length) := HLe.out.len
        have hk0 : 0 < j + qq := hbd.2.2 rfl
        have hk1 : i + (j + qq) ≤ N := by have := HLN.out; omega
        clear HE HI hrne hbd HLN
        have hj0 : ¬ ((j : Int) < 0) := by omega
        have k1 : IntKind.i64.wrap ((i : Int) + (j : Int)) = (i : Int) + (j : Int) := IntWalk.i64_in _ (by omega)
        have k2 : IntKind.i64.wrap ((i : Int) + (j : Int) + (qq : Int)) = (i : Int) + (j : Int) + (qq : Int) := IntWalk.i64_in _ (by omega)
        have k3 : (0 : Int) ≤ (i : Int) := by omega
        have k4 : (i : Int) ≤ (i : Int) + (j : Int) + (qq : Int) := by omega
        have k5 : (i : Int) + (j : Int) + (qq : Int) ≤ (cap : Int) := by omega
        have k6 : ((i : Int) + (j : Int) + (qq : Int)).toNat = i + j + qq := by omega
        have k7 : i + j + qq - i = j + qq := by omega
        have k8 : ¬ cap = i := by omega
        simp only [posI, widI]
        cases mi with
        | true =>
          as_aux_lemma =>
            have hcall := HP.out s1 N i rest true es' we.drew (j + qq) (HJ.out _ _ _ HJe.out (Only.of_below (Below.refl _ _)).drew) HLe.out.drew hk0 (by have := HLe.out.len; omega) (by have h := HTOT.out; rw [HT.out, tot_inner HPL.out HPP.out, tot_line HPL.out HPP.out] at h; unfold tot at h; dsimp only at h; have := HLe.out.len; omega)
            have HC := Lib.hid hcall
            clear hcall
            have c3i := HLe.out.c3
            go_wp2_with fail
            go_region_held3 (fun w' => w'.cell? ⟨c, o, none⟩ = some (.slice (some ⟨B, 0, none⟩) N cap) ∧ w'.cell? ⟨c, o + 3, none⟩ = some (.func (.func fp) p1 p2)) (first | go_keep | exact ⟨hL6.c0, hL6.c3⟩) ((refine HC.out.mono ?_; rintro e w6 ⟨rfl, hJ6, hL6⟩))
            clear k1 k2 k3 k4 k5 k6 k7 k8
            have c16 := hL6.c1
            have f16 := hL6.fr (o + 1)
            have HL6 := Lib.hid hL6
            have HJ6 := Lib.hid hJ6
            clear hL6 hJ6
            go_wp2_with fail
            go_roundw
            case rel =>
              refine ⟨lineF L P ⟨i, rest, true, es', s1⟩ (j + qq), q - 1, ?_, hk1, ⟨HQ.out, HT.out⟩, ?_, ?_⟩
              · show _ = Value.int .i64 ((i + (j + qq) : Nat) : Int); congr 1; omega
              · exact HJ.out _ _ _ HJ6.out (Only.of_set _ _ (by omega) _)
              · exact HL6.out.set_mid false
            case measure => simp [intOf]; omega
        | false =>
          as_aux_lemma =>
            have hcall := HL.out s1 N i rest false es' we.drew (j + qq) (HJ.out _ _ _ HJe.out (Only.of_below (Below.refl _ _)).drew) HLe.out.drew hk0 (by have := HLe.out.len; omega) (by have h := HTOT.out; rw [HT.out, tot_inner HPL.out HPP.out, tot_line HPL.out HPP.out] at h; unfold tot at h; dsimp only at h; have := HLe.out.len; omega)
            have HC := Lib.hid hcall
            clear hcall
            have c2i := HLe.out.c2
            go_wp2_with fail
            go_region_held3 (fun w' => w'.cell? ⟨c, o, none⟩ = some (.slice (some ⟨B, 0, none⟩) N cap) ∧ w'.cell? ⟨c, o + 2, none⟩ = some (.func (.func fl) l1 l2)) (first | go_keep | exact ⟨hL6.c0, hL6.c2⟩) ((refine HC.out.mono ?_; rintro e w6 ⟨rfl, hJ6, hL6⟩))
            clear k1 k2 k3 k4 k5 k6 k7 k8
            have HL6 := Lib.hid hL6
            have HJ6 := Lib.hid hJ6
            clear hL6 hJ6
            go_wp2_with fail
            go_roundw
            case rel =>
              refine ⟨lineF L P ⟨i, rest, false, es', s1⟩ (j + qq), q - 1, ?_, hk1, ⟨HQ.out, HT.out⟩, ?_, ?_⟩
              · show _ = Value.int .i64 ((i + (j + qq) : Nat) : Int); congr 1; omega
              · exact HJ6.out
              · exact HL6.out
            case measure => simp [intOf]; omega
    · have HR : Hid (rest = []) := List.length_eq_zero_iff.1 (by have := HLi.out.len; omega)
      go_wp2_with fail
      have e1 := HI.out.2
      rw [HR.out, innerF_nil] at e1
      have hk := HK.out
      rw [e1] at hk
      have h1 := HLi.out
      rw [HR.out] at h1
      exact hk _ _ _ _ _ _ _ _ _ _ _ _ _ _ _ _ _ _ _ _ _ _ _ _ _ _ _ _ _ _ _ _ _ _ _ _ _ _ _ _ _ _ _ _ _ _ _ _ _ _ _ _ _ _ _ _ _ _ _ _ _ _ _ _ _ _ _ _ _ _ _ _ _ _ _ _ _ _ _ _ _ _ _ _ _ _ _ _ _ _ _ _ _ _ _ _ _ _ _ _ _ _ _ _ _ _ _ _ _ _ (rfl) (HJi) (h1)

end Go.Proofs.YtdljobmhnnegiaaDoor
