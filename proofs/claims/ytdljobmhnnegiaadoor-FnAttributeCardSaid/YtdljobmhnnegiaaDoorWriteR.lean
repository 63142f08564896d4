/- The end of a round of lineBuffer.write: what is left is slid down, or handed on where the buffer is full. A piece of the contract of lineBuffer.write. -/
import Derived.Test.YtdljobmhnnegiaaDoorWriteB
namespace Go.Proofs.YtdljobmhnnegiaaDoor
open Go.RowKit

set_option maxRecDepth 100000 in
set_option maxHeartbeats 40000000 in
theorem write_rest {σ : Type} {pot : σ → Nat} {M c o B cap fl fp : Nat} {l1 l2 p1 p2 : Array Value} {J : σ → World → Prop} {L P : σ → List UInt8 → σ}
    (hL : CB pot M c o B cap (.func (.func fl) l1 l2) (.func (.func fp) p1 p2) J L fl l1 l2) (hP : CB pot M c o B cap (.func (.func fl) l1 l2) (.func (.func fp) p1 p2) J P fp p1 p2)
    (hentP : ∀ args w, (callFunc fp args).run Tryd.prog w = .ok (.enter fp args) w)
    (hpL : ∀ s l, pot (L s l) = pot s + l.length) (hpP : ∀ s l, pot (P s l) = pot s + l.length) (hJ : ∀ s w w', J s w → Only c o B w w' → J s w') (hG : ∀ s w, J s w → G4 w)
    (h4 : 4 ≤ cap) (hcap : cap ≤ 1000000) (N : Nat) (hNc : N ≤ cap) (i : Nat) (rest : List UInt8) (mi es : Bool) (s1 : σ) (wc : World)
    (HLx : Hid (LBS c o B cap (.func (.func fl) l1 l2) (.func (.func fp) p1 p2) N i rest mi es wc)) (HJx : Hid (J s1 wc)) (HTOT : Hid (tot pot ⟨i, rest, mi, es, s1⟩ ≤ M)) (Q : Exit → Act → World → Prop) (d1 d2 d3 d4 d6 d7 d8 d9 d10 d11 d12 d13 d14 d15 d16 d17 d18 d19 d20 d21 d22 d23 d24 d25 d26 d27 d28 d29 d30 d31 d32 d33 d34 d35 d36 d37 d38 d39 d40 d41 d42 d43 d44 d45 d46 d47 d48 d49 d50 d51 d52 d53 d54 d55 d56 d57 d58 d59 d60 d61 d62 d63 d64 d65 d66 d67 d68 d69 d70 d71 d72 d73 d74 d75 d76 d77 d78 d79 d80 d81 d82 d83 d84 d85 d86 d87 d88 d89 d90 d91 d92 d93 d94 d95 d96 d97 d98 d99 d100 d101 d102 d103 d104 d105 d106 d107 d108 d109 d110 d111 d112 d113 d114 d115 d116 d117 d118 d119 d120 d121 d122 d123 d124 d125 d126 d127 d128 d129 d130 d131 d132 d133 d134 d135 d136 d137 d138 d139 d140 d141 d142 d143 d144 d145 d146 d147 d148 d149 d150 d151 d152 d153 d154 d155 d156 d157 d158 d159 d160 d161 d162 d163 d164 d165 d166 d167 d168 d169 d170 d171 d172 d173 d174 d175 d176 d177 d178 d179 d180 d181 d182 d183 d184 d185 d186 d187 d188 d189 d190 d191 d192 d193 d194 d195 d196 d197 d198 d199 d200 d201 d202 d203 d204 d205 d206 d207 d208 d209 d210 d211 d212 d213 d214 d215 d216 d217 d218 d219 d220 d221 d222 d223 d224 d225 d226 : Value)
    (hK : ∀ (u10 u153 u154 u155 u156 u157 u158 u159 u160 u161 u162 u163 u164 u165 u166 u167 u168 u169 u170 u171 u172 u173 u174 u175 u176 u177 u178 u179 u180 u181 u182 u183 u184 u185 u186 u187 u188 u189 u190 u191 u192 u193 u194 u195 u196 u197 u198 u199 u200 u201 u202 u203 u204 u205 u206 u207 u208 u209 u210 u211 u212 u213 u214 u215 u216 u217 u218 u219 u220 u221 u222 u223 u224 u225 u226 : Value) (w' : World), J (endF P cap N ⟨i, rest, mi, es, s1⟩).2 w' → LBS c o B cap (.func (.func fl) l1 l2) (.func (.func fp) p1 p2) (endF P cap N ⟨i, rest, mi, es, s1⟩).1.bs.length 0 (endF P cap N ⟨i, rest, mi, es, s1⟩).1.bs (endF P cap N ⟨i, rest, mi, es, s1⟩).1.mid (endF P cap N ⟨i, rest, mi, es, s1⟩).1.esc w' → (endF P cap N ⟨i, rest, mi, es, s1⟩).1.bs.length < cap → Q .normal ⟨#[.pointer (some ⟨c, o, none⟩), d1, d2, d3, d4, .int .i64 (i : Int), d6, d7, d8, d9, u10, d11, d12, d13, d14, d15, d16, d17, d18, d19, d20, d21, d22, d23, d24, d25, d26, d27, d28, d29, d30, d31, d32, d33, d34, d35, d36, d37, d38, d39, d40, d41, d42, d43, d44, d45, d46, d47, d48, d49, d50, d51, d52, d53, d54, d55, d56, d57, d58, d59, d60, d61, d62, d63, d64, d65, d66, d67, d68, d69, d70, d71, d72, d73, d74, d75, d76, d77, d78, d79, d80, d81, d82, d83, d84, d85, d86, d87, d88, d89, d90, d91, d92, d93, d94, d95, d96, d97, d98, d99, d100, d101, d102, d103, d104, d105, d106, d107, d108, d109, d110, d111, d112, d113, d114, d115, d116, d117, d118, d119, d120, d121, d122, d123, d124, d125, d126, d127, d128, d129, d130, d131, d132, d133, d134, d135, d136, d137, d138, d139, d140, d141, d142, d143, d144, d145, d146, d147, d148, d149, d150, d151, d152, u153, u154, u155, u156, u157, u158, u159, u160, u161, u162, u163, u164, u165, u166, u167, u168, u169, u170, u171, u172, u173, u174, u175, u176, u177, u178, u179, u180, u181, u182, u183, u184, u185, u186, u187, u188, u189, u190, u191, u192, u193, u194, u195, u196, u197, u198, u199, u200, u201, u202, u203, u204, u205, u206, u207, u208, u209, u210, u211, u212, u213, u214, u215, u216, u217, u218, u219, u220, u221, u222, u223, u224, u225, u226], []⟩ w') :
    Code.wp Tryd.prog (code50 [0, 0, 1, 0, 1, 1, 1, 1, 1]) Q ⟨#[.pointer (some ⟨c, o, none⟩), d1, d2, d3, d4, .int .i64 (i : Int), d6, d7, d8, d9, d10, d11, d12, d13, d14, d15, d16, d17, d18, d19, d20, d21, d22, d23, d24, d25, d26, d27, d28, d29, d30, d31, d32, d33, d34, d35, d36, d37, d38, d39, d40, d41, d42, d43, d44, d45, d46, d47, d48, d49, d50, d51, d52, d53, d54, d55, d56, d57, d58, d59, d60, d61, d62, d63, d64, d65, d66, d67, d68, d69, d70, d71, d72, d73, d74, d75, d76, d77, d78, d79, d80, d81, d82, d83, d84, d85, d86, d87, d88, d89, d90, d91, d92, d93, d94, d95, d96, d97, d98, d99, d100, d101, d102, d103, d104, d105, d106, d107, d108, d109, d110, d111, d112, d113, d114, d115, d116, d117, d118, d119, d120, d121, d122, d123, d124, d125, d126, d127, d128, d129, d130, d131, d132, d133, d134, d135, d136, d137, d138, d139, d140, d141, d142, d143, d144, d145, d146, d147, d148, d149, d150, d151, d152, d153, d154, d155, d156, d157, d158, d159, d160, d161, d162, d163, d164, d165, d166, d167, d168, d169, d170, d171, d172, d173, d174, d175, d176, d177, d178, d179, d180, d181, d182, d183, d184, d185, d186, d187, d188, d189, d190, d191, d192, d193, d194, d195, d196, d197, d198, d199, d200, d201, d202, d203, d204, d205, d206, d207, d208, d209, d210, d211, d212, d213, d214, d215, d216, d217, d218, d219, d220, d221, d222, d223, d224, d225, d226], []⟩ wc := by
  have HL := Lib.hid hL
  have HP := Lib.hid hP
  have HJ := Lib.hid hJ
  have HG := Lib.hid hG
  have HPL := Lib.hid hpL
  have HPP := Lib.hid hpP
  have HKK := Lib.hid hK
  clear hL hP hJ hG hpL hpP hK
  refine wp_nop ?_
  conv => arg 2; whnf
  have c0x := HLx.out.c0
  have f0x := HLx.out.fr o
  have hiN : i ≤ N := by have := HLx.out.len; omega
  by_cases hi0 : i = 0
  · obtain rfl := hi0
    have bi : (((0 : Nat) : Int) == 0) = true := by decide
    by_cases hNcap : N = cap
    · obtain rfl := hNcap
      have bn : ((N : Int) == (N : Int)) = true := by simp
      have hNr : N = rest.length := by have := HLx.out.len; omega
      have htgt := trimFrom_gt rest 4 1 (by omega) (by omega)
      have htle := trimFrom_le rest 4 1
      have hcall := trim_any B 0 N rest (wc) N hNr (by omega) HLx.out.rd
      obtain ⟨t, ht⟩ : ∃ t, t = trimU rest := ⟨_, rfl⟩
      rw [← ht] at hcall
      have ht0 : 0 < t := by rw [ht]; unfold trimU; omega
      have htN : t ≤ N := by rw [ht]; unfold trimU; omega
      have HTt := Lib.hid ht
      have HTC : Hid (∀ q, Calls Tryd.prog 61 #[.slice (some ⟨B, 0, none⟩) N N] (wc.drewN q) fun e w' => e = .returned (.int .i64 t) ∧ wc.drewN q = w') := by
        intro q
        have := trim_any B 0 N rest (wc.drewN q) N hNr (by omega) (HLx.out.below (drewN_below wc q)).rd
        rw [← ht] at this
        exact this
      have HNr := Lib.hid hNr
      clear hcall ht htgt htle hNr
      go_wp2_with fail
      go_quiet (fail)
      go_wp2_with (go_at_call 61; refine (HTC.out _).mono ?_; rintro e w' ⟨rfl, rfl⟩)
      have HJ5 : Hid (J s1 (wc.drewN nq)) := HJ.out _ _ _ HJx.out (Only.of_below (drewN_below wc _))
      have HL5 : Hid (LBS c o B N (.func (.func fl) l1 l2) (.func (.func fp) p1 p2) N 0 rest mi es (wc.drewN nq)) := HLx.out.below (drewN_below wc _)
      clear HJx HLx c0x f0x HTC
      generalize wc.drewN nq = w5 at HJ5 HL5 ⊢
      have c05 := HL5.out.c0
      have c35 := HL5.out.c3
      have hcall := HP.out s1 N 0 rest mi es w5.drew t (HJ.out _ _ _ HJ5.out (Only.of_below (Below.refl _ _)).drew) HL5.out.drew ht0 (by rw [← HNr.out]; exact htN) (by have h := HTOT.out; unfold tot at h; dsimp only at h; have := HNr.out; omega)
      have HC := Lib.hid hcall
      clear hcall
      have i1 : (0 : Int) ≤ (t : Int) := by omega
      have i2 : (t : Int) ≤ (N : Int) := by omega
      go_region_held3 (fun w' => w'.cell? ⟨c, o, none⟩ = some (.slice (some ⟨B, 0, none⟩) N N) ∧ w'.cell? ⟨c, o + 3, none⟩ = some (.func (.func fp) p1 p2)) (first | go_keep | exact ⟨hL6.c0, hL6.c3⟩) ((refine HC.out.mono ?_; rintro e w6 ⟨rfl, hJ6, hL6⟩))
      rw [Nat.zero_add] at hL6
      have HL6 := Lib.hid hL6
      have HJ6 := Lib.hid hJ6
      clear hL6 hJ6 c05 c35 HC HL5 HJ5
      have c0x := HL6.out.c0
      have f0x := HL6.out.fr o
      obtain ⟨raw2, hraw2⟩ : ∃ raw, Hid (w6.heap[B]? = some (.cells raw 5 (0, 0)) ∧ raw.size = N) := HL6.out.buf
      obtain ⟨rd, hrd⟩ : ∃ rd, rd = rest.drop t := ⟨_, rfl⟩
      rw [← hrd] at HL6
      have hrdl : rd.length = N - t := by have := HL6.out.len; omega
      have HRD := Lib.hid hrd
      have HVL : Hid ((vals rd).length = Nat.min (N - t) N) := by show _ = min (N - t) N; rw [vals_length, hrdl, Nat.min_eq_left (by omega)]
      have HFIT : Hid (0 + (vals rd).length ≤ raw2.size) := by show _ ≤ _; rw [vals_length, hraw2.out.2]; omega
      have HRL : Hid ((vals rd).length = N - t) := by show _ = _; rw [vals_length, hrdl]
      have HRDL := Lib.hid hrdl
      have j4 : (0 : Int) ≤ ((N - t : Nat) : Int) := by omega
      have j5 : ((N - t : Nat) : Int) ≤ (N : Int) := by omega
      obtain ⟨AO, hAO⟩ : ∃ AO, AO = if N = t then 0 else t := ⟨_, rfl⟩
      have hsl2 : ∀ w', (Instr.slice 23 (.slice (some ⟨B, 0, none⟩) N N) (some (.int .i64 t)) none none).run Tryd.prog w' = .ok (.slice (some ⟨B, AO, none⟩) (N - t) (N - t)) w' := fun w' => by
        rw [hAO]; have := slice_from w' B 0 N N t htN (Nat.le_refl _); rw [Nat.zero_add] at this; exact this
      have HSR : Hid (∀ j v, (vals rd)[j]? = some v → w6.cell? ((⟨B, AO, none⟩ : Addr).add j) = some v) := by
        intro j v hj
        by_cases hci : N = t
        · have : rd = [] := List.length_eq_zero_iff.1 (by omega)
          rw [this] at hj; simp [vals] at hj
        · rw [hAO, if_neg hci]; exact HL6.out.rd.vals j v hj
      clear hAO hrd hrdl
      go_wp2_with fail
      go_region_law (go_loud (refine step_copy_row rfl (.tmp 192) (.tmp 198) 23 23 rfl 5 Tryd.underlying23 size5 (some ⟨B, 0, none⟩) (some ⟨B, AO, none⟩) _ _ _ _ (by rfl) (by rfl) B 0 raw2 5 hraw2.out.1 (vals rd) HVL.out (fun _ => ⟨rfl, _, rfl, HSR.out⟩) HFIT.out (vals_one rd) ?_; intro w7 row7 hw7 hrow7; rw [HRL.out]; have c07 : w7.cell? ⟨c, o, none⟩ = some (.slice (some ⟨B, 0, none⟩) N N) := (by rw [hw7.out, cell_setRow_ne _ (Ne.symm HL6.out.ne)]; exact c0x); have f07 : w7.frozen? ⟨c, o, none⟩ = false := (by rw [hw7.out, frozen_setRow_ne _ (Ne.symm HL6.out.ne)]; exact f0x)))
      all_goals
        have HL8 : Hid (LBS c o B N (.func (.func fl) l1 l2) (.func (.func fp) p1 p2) (N - t) 0 rd mi es (w7.setCell ⟨c, o, none⟩ (.slice (some ⟨B, 0, none⟩) (N - t) N))) := by
          rw [hw7.out]; exact (HL6.out.drew).slide row7 raw2 hraw2.out.2 hrow7.out
        have HJ8 : Hid (J (P s1 (rest.take t)) (w7.setCell ⟨c, o, none⟩ (.slice (some ⟨B, 0, none⟩) (N - t) N))) := by
          rw [hw7.out]; exact HJ.out _ _ _ (HJ.out _ _ _ HJ6.out (Only.of_below (Below.refl _ _)).drew) (Only.slide _ HL6.out.ne _ _)
        have c18 := HL8.out.c1
        have f18 := HL8.out.fr (o + 1)
        go_wp2_with fail
        have hend : endF P N N (⟨0, rest, mi, es, s1⟩ : IS σ) = (⟨rd, true, es⟩, P s1 (rest.take t)) := by unfold endF; rw [if_pos ⟨rfl, rfl⟩]; dsimp only; rw [← HTt.out, ← HRD.out]
        have hk := HKK.out
        rw [hend] at hk
        refine hk _ _ _ _ _ _ _ _ _ _ _ _ _ _ _ _ _ _ _ _ _ _ _ _ _ _ _ _ _ _ _ _ _ _ _ _ _ _ _ _ _ _ _ _ _ _ _ _ _ _ _ _ _ _ _ _ _ _ _ _ _ _ _ _ _ _ _ _ _ _ _ _ _ _ _ _ (HJ.out _ _ _ HJ8.out (Only.of_set _ _ (by omega) _)) ?_ (by show rd.length < N; rw [HRDL.out]; omega)
        have := HL8.out.set_mid true
        rw [← HRDL.out] at this ⊢
        exact this
    · as_aux_lemma =>
        have bn : ((N : Int) == (cap : Int)) = false := by simp; omega
        have HNC := Lib.hid hNcap
        clear hNcap
        go_wp2_with fail
        go_quiet (fail)
        go_wp2_with fail
        have hend : endF P cap N (⟨0, rest, mi, es, s1⟩ : IS σ) = (⟨rest, mi, es⟩, s1) := by unfold endF; rw [if_neg (fun hh => HNC.out hh.2)]
        have hk := HKK.out
        rw [hend] at hk
        have hlen : rest.length = N := by have := HLx.out.len; omega
        refine hk _ _ _ _ _ _ _ _ _ _ _ _ _ _ _ _ _ _ _ _ _ _ _ _ _ _ _ _ _ _ _ _ _ _ _ _ _ _ _ _ _ _ _ _ _ _ _ _ _ _ _ _ _ _ _ _ _ _ _ _ _ _ _ _ _ _ _ _ _ _ _ _ _ _ _ _ (HJ.out _ _ _ HJx.out (Only.of_below (drewN_below wc _))) ?_ (by show rest.length < cap; rw [hlen]; have := HNC.out; omega)
        have := HLx.out.below (drewN_below wc nq)
        rw [← hlen] at this
        exact this
  · have hi1 : 0 < i := by omega
    have bi : ((i : Int) == 0) = false := by simp; omega
    obtain ⟨raw2, hraw2⟩ : ∃ raw, Hid (wc.heap[B]? = some (.cells raw 5 (0, 0)) ∧ raw.size = cap) := HLx.out.buf
    have HVL : Hid ((vals rest).length = Nat.min (N - i) N) := by show _ = min (N - i) N; rw [vals_length]; have := HLx.out.len; rw [Nat.min_eq_left (by omega)]; omega
    have HFIT : Hid (0 + (vals rest).length ≤ raw2.size) := by show _ ≤ _; rw [vals_length, hraw2.out.2]; have := HLx.out.len; omega
    have HRL : Hid ((vals rest).length = N - i) := by show _ = _; rw [vals_length]; have := HLx.out.len; omega
    have HI0 := Lib.hid hi0
    clear hi0
    have j1 : (0 : Int) ≤ (i : Int) := by omega
    have j2 : (i : Int) ≤ (N : Int) := by omega
    have j3 : (N : Int) ≤ (cap : Int) := by omega
    have j4 : (0 : Int) ≤ ((N - i : Nat) : Int) := by omega
    have j5 : ((N - i : Nat) : Int) ≤ (cap : Int) := by omega
    obtain ⟨AO, hAO⟩ : ∃ AO, AO = if cap = i then 0 else i := ⟨_, rfl⟩
    have hsl2 : ∀ w', (Instr.slice 23 (.slice (some ⟨B, 0, none⟩) N cap) (some (.int .i64 i)) none none).run Tryd.prog w' = .ok (.slice (some ⟨B, AO, none⟩) (N - i) (cap - i)) w' := fun w' => by
      rw [hAO]; have := slice_from w' B 0 N cap i hiN hNc; rw [Nat.zero_add] at this; exact this
    have HSR : Hid (∀ j v, (vals rest)[j]? = some v → wc.cell? ((⟨B, AO, none⟩ : Addr).add j) = some v) := by
      intro j v hj
      by_cases hci : cap = i
      · have : rest = [] := List.length_eq_zero_iff.1 (by have := HLx.out.len; omega)
        rw [this] at hj; simp [vals] at hj
      · rw [hAO, if_neg hci]; exact HLx.out.rd.vals j v hj
    clear hAO
    go_wp2_with fail
    go_quiet (fail)
    go_wp2_with fail
    go_region_law (go_loud (refine step_copy_row rfl (.tmp 216) (.tmp 222) 23 23 rfl 5 Tryd.underlying23 size5 (some ⟨B, 0, none⟩) (some ⟨B, AO, none⟩) _ _ _ _ (by rfl) (by rfl) B 0 raw2 5 hraw2.out.1 (vals rest) HVL.out (fun _ => ⟨rfl, _, rfl, HSR.out⟩) HFIT.out (vals_one rest) ?_; intro w7 row7 hw7 hrow7; rw [HRL.out]; have c07 : w7.cell? ⟨c, o, none⟩ = some (.slice (some ⟨B, 0, none⟩) N cap) := (by rw [hw7.out, cell_setRow_ne _ (Ne.symm HLx.out.ne)]; exact c0x); have f07 : w7.frozen? ⟨c, o, none⟩ = false := (by rw [hw7.out, frozen_setRow_ne _ (Ne.symm HLx.out.ne)]; exact f0x)))
    all_goals
      go_wp2_with fail
      have hend : endF P cap N (⟨i, rest, mi, es, s1⟩ : IS σ) = (⟨rest, mi, es⟩, s1) := by unfold endF; rw [if_neg (fun hh => HI0.out hh.1)]
      have hk := HKK.out
      rw [hend] at hk
      have hlen : rest.length = N - i := by have := HLx.out.len; omega
      refine hk _ _ _ _ _ _ _ _ _ _ _ _ _ _ _ _ _ _ _ _ _ _ _ _ _ _ _ _ _ _ _ _ _ _ _ _ _ _ _ _ _ _ _ _ _ _ _ _ _ _ _ _ _ _ _ _ _ _ _ _ _ _ _ _ _ _ _ _ _ _ _ _ _ _ _ _ ?_ ?_ (by show rest.length < cap; rw [hlen]; omega)
      · rw [hw7.out]; exact HJ.out _ _ _ (HJ.out _ _ _ HJx.out (Only.of_below (drewN_below wc _))) (Only.slide _ HLx.out.ne _ _)
      · rw [hw7.out]; show LBS c o B cap _ _ rest.length 0 rest mi es _; rw [hlen]; exact (HLx.out.below (drewN_below wc _)).slide row7 raw2 hraw2.out.2 hrow7.out

end Go.Proofs.YtdljobmhnnegiaaDoor
