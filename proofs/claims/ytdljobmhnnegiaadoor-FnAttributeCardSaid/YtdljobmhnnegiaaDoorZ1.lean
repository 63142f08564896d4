/- What stands behind the marker of a line: the stages of function 52, one behind the other, and the words of framing. -/
import Derived.Test.YtdljobmhnnegiaaDoorFrame
import Derived.Test.YtdljobmhnnegiaaDoorFlushRep
import Derived.Test.YtdljobmhnnegiaaDoorZCut
import Derived.Test.YtdljobmhnnegiaaDoorLower

/- The callees of handleInputLine, the output buffer carried along; the pieces of its code. -/
namespace Go.Proofs.YtdljobmhnnegiaaDoor
open Go.RowKit

theorem S_beq_dec (l m : List UInt8) : ((S l).data.toList == m) = decide (l = m) := by rw [S_toList, Bool.eq_iff_iff]; simp
noncomputable def code52 (p : List Nat) : Code := codeAt p (Tryd.f52.body.getD .skip)

def HP (cf : Cf) (B : Nat) (xm : List Nat) (tp : List (Nat × Obj)) (s : CS) (w : World) (en : Ending) (w' : World) : Prop :=
  en = .returned (.tuple #[]) ∧ Core cf (B :: xm) tp s w' ∧ Same610 cf.c w w' ∧ OB cf B s w'

section
variable {cf : Cf} {B : Nat} {xm : List Nat} {tp : List (Nat × Obj)} {s : CS} {w : World}

theorem OPost.hp {N : Nat} {en : Ending} {w' : World} (h : OPost cf B xm tp s N w en w') : HP cf B xm tp s w en w' := ⟨h.1, h.2.1, h.2.2.1, h.2.2.2.1⟩

theorem flushRepO (h : Core cf (B :: xm) tp s w) (hb : OB cf B s w) (d : Nat) (hd : d ≤ 1000000000000) (hr : s.report.length ≤ 10000000) (hn : s.evs.length + s.report.length ≤ 50000000) :
    Calls Tryd.prog 62 #[.pointer (some ⟨cf.c, 0, none⟩), .int .i64 d] w (HP cf B xm tp (flushRep s d) w) := by
  obtain ⟨raw, h1, h2⟩ := hb.1.buf
  refine (flushRep_any (h.take h1) d hd hr hn).mono ?_
  rintro en w' ⟨rfl, hC, hS⟩
  have hg := hC.give
  exact ⟨rfl, hg.1, hS.i, hb.same hS hC.fr (hg.2.trans h1.symm) rfl⟩

theorem Core.swap {a b : Nat} (h : Core cf (a :: b :: xm) tp s w) : Core cf (b :: a :: xm) tp s w := by
  obtain ⟨ρ, rv, gs, ev, xs, kp, r⟩ := h.rows
  have h5 : ∀ x ∈ b :: a :: xm, ρ x = 5 := fun x hx => r.r5 x (by
    rcases List.mem_cons.1 hx with e | hx
    · rw [e]; exact List.mem_cons_of_mem _ (List.mem_cons_self ..)
    · rcases List.mem_cons.1 hx with e | hx
      · rw [e]; exact List.mem_cons_self ..
      · exact List.mem_cons_of_mem _ (List.mem_cons_of_mem _ hx))
  have hn : (b :: a :: xm).Nodup := by
    have h1 := List.nodup_cons.1 r.ndx
    have h2 := List.nodup_cons.1 h1.2
    refine List.nodup_cons.2 ⟨fun hm => ?_, List.nodup_cons.2 ⟨fun hm => h1.1 (List.mem_cons_of_mem _ hm), h2.2⟩⟩
    rcases List.mem_cons.1 hm with e | hm
    · exact h1.1 (by rw [e]; exact List.mem_cons_self ..)
    · exact h2.1 hm
  exact ⟨h.bel, h.g0, h.cells, h.fr, ρ, rv, gs, ev, xs, kp, { r with r5 := h5, ndx := hn }⟩
theorem emit_out (s : CS) (e : Ev) : (emit s e).out = s.out := rfl
theorem eventO {g : Nat} (h : Core cf (g :: B :: xm) tp s w) (hb : OB cf B s w) {e : Ev} {p0 : ByteArray} (hg : w.heap[g]? = some (evBlk e p0 (.slice none 0 0))) (ho : e.output = []) (hn : s.evs.length ≤ 100000000) :
    Calls Tryd.prog 54 #[.pointer (some ⟨cf.c, 0, none⟩), .pointer (some ⟨g, 0, none⟩)] w (HP cf B xm tp (emit s e) w) := by
  obtain ⟨raw, h1, h2⟩ := hb.1.buf
  have h' : Core cf (g :: xm) ((B, .cells raw 5 (0, 0)) :: tp) s w := by
    have hsw := h.swap
    exact hsw.take h1
  refine (event_any h' hg (by rw [ho]; exact .inl ⟨rfl, rfl⟩) hn (by rw [ho]; simp)).mono ?_
  rintro en w' ⟨rfl, hC, hS⟩
  have hg' := hC.give
  exact ⟨rfl, hg'.1, hS.i, hb.same hS hC.fr (hg'.2.trans h1.symm) (emit_out s e)⟩
end

end Go.Proofs.YtdljobmhnnegiaaDoor

/- handleInputLine: an update is told (behind its fields). -/
namespace Go.Proofs.YtdljobmhnnegiaaDoor
open Go.RowKit

set_option maxRecDepth 100000 in
set_option maxHeartbeats 40000000 in
theorem stI2 {cf : Cf} {B : Nat} {xm : List Nat} {tp : List (Nat × Obj)} {s : CS} {w : World} {g b6 o6 n6 c6 : Nat} {saw : Bool} {act nm orig : List UInt8} {e : Ev} {p0 : ByteArray}
    (h : Core cf (g :: B :: xm) tp s w) (hb : OB cf B s w) (hg : w.heap[g]? = some (evBlk e p0 (.slice none 0 0))) (ho : e.output = []) (hsrc : Src tp b6 o6 orig) (hn6 : n6 = orig.length) (hc6 : n6 ≤ c6) (hbig : n6 ≤ 1000000)
    (hr : pe s + s.report.length + 2 * n6 ≤ 9000000)
    (Q : Exit → Act → World → Prop) (d1 d2 d3 d5 d7 d8 d9 d10 d11 d12 d15 d17 d18 d19 d20 d21 d22 d23 d24 d25 d26 d27 d28 d29 d30 d31 d32 d33 d34 d35 d36 d37 d38 d39 d40 d41 d42 d43 d44 d45 d46 d47 d48 d49 d50 d51 d52 d53 d54 d55 d56 d57 d58 d59 d60 d61 d62 d63 d64 d65 d66 d67 d68 d69 d70 d71 d72 d73 d74 d75 d76 d77 d78 d79 d80 d81 d82 d83 d84 d85 d86 d87 d88 d89 d90 d91 d92 d93 d94 d95 d96 d97 d98 d99 d100 d101 d102 d103 d104 d105 d106 d107 d108 d109 d110 d111 d112 d113 d114 d115 d116 d117 d118 d119 d120 d121 d122 d123 d124 d125 d126 d127 d128 d129 d130 d131 d132 d133 d134 d135 d136 d137 d138 d139 d140 d141 d142 d143 d144 d145 d146 d147 d148 d149 d150 d151 d152 d153 d154 d155 d156 d157 d158 d159 d160 d161 d162 d163 d164 d165 d166 d167 d168 d169 d170 d171 d172 d173 d174 d175 d176 d177 d178 d179 d180 d181 d182 d183 d184 d185 d186 d187 d188 d189 d190 d191 d192 d193 d194 d195 d196 d197 d198 d199 d200 d201 d202 d203 d204 d205 d206 d207 d208 d209 d210 d211 d212 d213 d214 d215 d216 d217 d218 d219 d220 d221 d222 d223 d224 d225 d226 d227 d228 d229 d230 d231 d232 d233 d234 d235 d236 d237 d238 d239 d240 d241 d242 d243 d244 d245 d246 d247 d248 d249 d250 d251 d252 d253 d254 d255 d256 d257 d258 d259 d260 d261 d262 d263 d264 d265 d266 d267 d268 d269 d270 d271 d272 d273 d274 d275 d276 d277 d278 d279 d280 d281 d282 d283 d284 d285 d286 d287 d288 d289 d290 d291 d292 d293 d294 d295 d296 d297 d298 d299 d300 d301 d302 d303 d304 d305 d306 d307 d308 d309 d310 d311 d312 d313 d314 d315 d316 d317 d318 d319 d320 d321 d322 d323 d324 d325 d326 d327 d328 d329 d330 d331 d332 d333 d334 d335 d336 d337 : Value)
    (hK : ∀ (a : Act) (w' : World), a.defers = [] → HP cf B xm tp (updG s saw orig act nm e) w (.returned (.tuple #[])) w' → Q .ret a w') :
    Code.wp Tryd.prog (code52 [1, 1, 1, 1, 1, 1, 1, 1, 1, 1, 1, 1, 1, 1, 1, 1, 1, 1, 1, 1, 1, 1]) Q ⟨#[.pointer (some ⟨cf.c, 0, none⟩), d1, d2, d3, .bool saw, d5, .slice (some ⟨b6, o6, none⟩) n6 c6, d7, d8, d9, d10, d11, d12, .string (S act), .string (S nm), d15, .pointer (some ⟨g, 0, none⟩), d17, d18, d19, d20, d21, d22, d23, d24, d25, d26, d27, d28, d29, d30, d31, d32, d33, d34, d35, d36, d37, d38, d39, d40, d41, d42, d43, d44, d45, d46, d47, d48, d49, d50, d51, d52, d53, d54, d55, d56, d57, d58, d59, d60, d61, d62, d63, d64, d65, d66, d67, d68, d69, d70, d71, d72, d73, d74, d75, d76, d77, d78, d79, d80, d81, d82, d83, d84, d85, d86, d87, d88, d89, d90, d91, d92, d93, d94, d95, d96, d97, d98, d99, d100, d101, d102, d103, d104, d105, d106, d107, d108, d109, d110, d111, d112, d113, d114, d115, d116, d117, d118, d119, d120, d121, d122, d123, d124, d125, d126, d127, d128, d129, d130, d131, d132, d133, d134, d135, d136, d137, d138, d139, d140, d141, d142, d143, d144, d145, d146, d147, d148, d149, d150, d151, d152, d153, d154, d155, d156, d157, d158, d159, d160, d161, d162, d163, d164, d165, d166, d167, d168, d169, d170, d171, d172, d173, d174, d175, d176, d177, d178, d179, d180, d181, d182, d183, d184, d185, d186, d187, d188, d189, d190, d191, d192, d193, d194, d195, d196, d197, d198, d199, d200, d201, d202, d203, d204, d205, d206, d207, d208, d209, d210, d211, d212, d213, d214, d215, d216, d217, d218, d219, d220, d221, d222, d223, d224, d225, d226, d227, d228, d229, d230, d231, d232, d233, d234, d235, d236, d237, d238, d239, d240, d241, d242, d243, d244, d245, d246, d247, d248, d249, d250, d251, d252, d253, d254, d255, d256, d257, d258, d259, d260, d261, d262, d263, d264, d265, d266, d267, d268, d269, d270, d271, d272, d273, d274, d275, d276, d277, d278, d279, d280, d281, d282, d283, d284, d285, d286, d287, d288, d289, d290, d291, d292, d293, d294, d295, d296, d297, d298, d299, d300, d301, d302, d303, d304, d305, d306, d307, d308, d309, d310, d311, d312, d313, d314, d315, d316, d317, d318, d319, d320, d321, d322, d323, d324, d325, d326, d327, d328, d329, d330, d331, d332, d333, d334, d335, d336, d337], []⟩ w := by
  have HK := Lib.hid hK
  clear hK
  -- the world up to the reports
  obtain ⟨raw, hraw1, hraw2⟩ := hb.1.buf
  have hBc := hb.1.ne
  have hgc := (h.xlt (by simp : g ∈ g :: B :: xm)).2.2
  have hset := h.setMF saw
  have hC1 := hset.1.take (b := g) ((Below.heap_setCell w ⟨cf.c, 16, none⟩ (.bool saw) g hgc).trans hg)
  have hO1 : OB cf B { s with mFraming := saw } (w.setCell ⟨cf.c, 16, none⟩ (.bool saw)) := hb.same hset.2 hset.1.fr (Below.heap_setCell _ _ _ _ hBc) rfl
  unfold pe at hr
  have hfl := flushRepO hC1 hO1 0 (by omega) (by show s.report.length ≤ _; omega) (by show s.evs.length + s.report.length ≤ _; omega)
  have HF := Lib.hid hfl
  have HS1 : Hid (Same610 cf.c w (w.setCell ⟨cf.c, 16, none⟩ (.bool saw))) := hset.2.i
  have f16 := h.fr 16
  have c16 := h.cells 16 _ rfl
  have HSRC := Lib.hid hsrc
  have HN6 := Lib.hid hn6
  have HG := Lib.hid hg
  have HOO := Lib.hid ho
  obtain ⟨s1, hs1⟩ : ∃ s1, s1 = flushRep { s with mFraming := saw } 0 := ⟨_, rfl⟩
  rw [← hs1] at HF
  have hs1p : pe s1 ≤ 9000000 ∧ 2 * n6 + pe s1 ≤ 9000000 := by
    rw [hs1]
    unfold flushRep pe
    simp
    omega
  have HS1P := Lib.hid hs1p
  have HS1E := Lib.hid hs1
  clear h hb hg hsrc hn6 hr hset hC1 hO1 hfl ho hs1 hs1p hraw1 hraw2
  obtain ⟨aN, haN⟩ : ∃ b, b = decide (act = tname) := ⟨_, rfl⟩
  obtain ⟨aP, haP⟩ : ∃ b, b = decide (act = tpause) := ⟨_, rfl⟩
  have tN : ((S act).data.toList == [110, 97, 109, 101]) = aN := by rw [haN]; exact S_beq_dec act tname
  have tP : ((S act).data.toList == [112, 97, 117, 115, 101]) = aP := by rw [haP]; exact S_beq_dec act tpause
  have HAN := Lib.hid haN
  have HAP := Lib.hid haP
  have HU : Hid (updG s saw orig act nm e = if aN = true then { s1 with name := nm } else if aP = true then emit (frameF { s1 with name := nm } orig) e else frameF (emit { s1 with name := nm } e) orig) := by
    show _ = _
    rw [HS1E.out, HAN.out, HAP.out]
    unfold updG
    simp only [decide_eq_true_eq]
  clear haN haP HS1E
  -- behind the name's store
  have HX : Hid (∀ w1, Core cf (B :: xm) ((g, evBlk e p0 (.slice none 0 0)) :: tp) s1 w1 → OB cf B s1 w1 → Core cf (B :: xm) ((g, evBlk e p0 (.slice none 0 0)) :: tp) { s1 with name := nm } (w1.setCell ⟨cf.c, 3, none⟩ (.string (S nm))) ∧ Same610 cf.c w1 (w1.setCell ⟨cf.c, 3, none⟩ (.string (S nm))) ∧ OB cf B { s1 with name := nm } (w1.setCell ⟨cf.c, 3, none⟩ (.string (S nm)))) :=
    fun w1 h1 h2 => ⟨(h1.setName nm).1, (h1.setName nm).2.i, h2.same (h1.setName nm).2 (h1.setName nm).1.fr (Below.heap_setCell _ _ _ _ h2.1.ne) rfl⟩
  cases aN with
  | true =>
    refine wp_nop ?_
    conv => arg 2; whnf
    go_wp2_with fail
    refine HF.out.mono ?_
    rintro en w1 ⟨rfl, hC1, hS1, hO1⟩
    have c3 := hC1.cells 3 _ rfl
    have f3 := hC1.fr 3
    have hx := HX.out w1 hC1 hO1
    have HXX := Lib.hid hx
    have HSS := Lib.hid hS1
    clear hC1 hS1 hO1 hx c16 f16
    go_wp2_with fail
    refine HK.out _ _ rfl ?_
    rw [HU.out]
    exact ⟨rfl, HXX.out.1.tdrop, (HS1.out.trans HSS.out).trans HXX.out.2.1, HXX.out.2.2⟩
  | false =>
    cases aP with
    | true =>
      refine wp_nop ?_
      conv => arg 2; whnf
      go_wp2_with fail
      refine HF.out.mono ?_
      rintro en w1 ⟨rfl, hC1, hS1, hO1⟩
      have c3 := hC1.cells 3 _ rfl
      have f3 := hC1.fr 3
      have hx := HX.out w1 hC1 hO1
      have hfr := frame_any hx.1 hx.2.2 (HSRC.out.mono fun p hp => List.mem_cons_of_mem _ hp) n6 c6 HN6.out hc6 (by omega) (by have := HS1P.out.1; unfold pe at this ⊢; dsimp only; omega)
      have HFR := Lib.hid hfr
      have HSS : Hid (Same610 cf.c w (w1.setCell ⟨cf.c, 3, none⟩ (.string (S nm)))) := (HS1.out.trans hS1).trans hx.2.1
      clear hC1 hS1 hO1 hx c16 f16 hfr
      go_wp2_with fail
      refine HFR.out.mono ?_
      rintro en w2 ⟨rfl, hC2, hS2, hO2, hpe2⟩
      have hg2 := hC2.give
      have hev := eventO hg2.1 hO2 hg2.2 HOO.out (by have := HS1P.out.2; unfold pe at hpe2 this; dsimp only at hpe2; omega)
      have HEV := Lib.hid hev
      have HS2 := Lib.hid hS2
      clear hC2 hS2 hO2 hpe2 hg2 hev c3 f3
      go_wp2_with fail
      refine HEV.out.mono ?_
      rintro en w3 ⟨rfl, hC3, hS3, hO3⟩
      have H3 : Hid (HP cf B xm tp (emit (frameF { s1 with name := nm } orig) e) w (.returned (.tuple #[])) w3) := ⟨rfl, hC3, (HSS.out.trans HS2.out).trans hS3, hO3⟩
      clear hC3 hS3 hO3
      go_wp2_with fail
      refine HK.out _ _ rfl ?_
      rw [HU.out]
      exact H3.out
    | false =>
      refine wp_nop ?_
      conv => arg 2; whnf
      go_wp2_with fail
      refine HF.out.mono ?_
      rintro en w1 ⟨rfl, hC1, hS1, hO1⟩
      have c3 := hC1.cells 3 _ rfl
      have f3 := hC1.fr 3
      have hx := HX.out w1 hC1 hO1
      have hg1 := hx.1.give
      have hev := eventO hg1.1 hx.2.2 hg1.2 HOO.out (by have := HS1P.out.1; unfold pe at this; dsimp only; omega)
      have HEV := Lib.hid hev
      have HSS : Hid (Same610 cf.c w (w1.setCell ⟨cf.c, 3, none⟩ (.string (S nm)))) := (HS1.out.trans hS1).trans hx.2.1
      clear hC1 hS1 hO1 hx c16 f16 hg1 hev
      go_wp2_with fail
      refine HEV.out.mono ?_
      rintro en w2 ⟨rfl, hC2, hS2, hO2⟩
      have hfr := frame_any hC2 hO2 HSRC.out n6 c6 HN6.out hc6 (by omega) (by have := HS1P.out.1; unfold pe at this ⊢; rw [emit_len, emit_out]; dsimp only; omega)
      have HFR := Lib.hid hfr
      have HS2 := Lib.hid hS2
      clear hC2 hS2 hO2 hfr c3 f3
      go_wp2_with fail
      refine HFR.out.mono ?_
      rintro en w3 ⟨rfl, hC3, hS3, hO3, _⟩
      have H3 : Hid (HP cf B xm tp (frameF (emit { s1 with name := nm } e) orig) w (.returned (.tuple #[])) w3) := ⟨rfl, hC3, (HSS.out.trans HS2.out).trans hS3, hO3⟩
      clear hC3 hS3 hO3
      go_wp2_with fail
      refine HK.out _ _ rfl ?_
      rw [HU.out]
      exact H3.out

end Go.Proofs.YtdljobmhnnegiaaDoor

/- handleInputLine: an update, its fields. -/
namespace Go.Proofs.YtdljobmhnnegiaaDoor
open Go.RowKit

set_option maxRecDepth 100000 in
set_option maxHeartbeats 40000000 in
theorem stI {cf : Cf} {B : Nat} {xm : List Nat} {tp : List (Nat × Obj)} {s : CS} {w : World} {g b6 o6 n6 c6 : Nat} {saw : Bool} {act nm orig : List UInt8}
    (h : Core cf (g :: B :: xm) tp s w) (hb : OB cf B s w) (hg : w.heap[g]? = some (evBlk (Ev.of act []) ⟨#[]⟩ (.slice none 0 0))) (hsrc : Src tp b6 o6 orig) (hn6 : n6 = orig.length) (hc6 : n6 ≤ c6) (hbig : n6 ≤ 1000000)
    (hr : pe s + s.report.length + 2 * n6 ≤ 9000000) (hnm : nm.length ≤ 1000000)
    (Q : Exit → Act → World → Prop) (d1 d2 d3 d5 d7 d8 d9 d10 d11 d12 d15 d17 d18 d19 d20 d21 d22 d23 d24 d25 d26 d27 d28 d29 d30 d31 d32 d33 d34 d35 d36 d37 d38 d39 d40 d41 d42 d43 d44 d45 d46 d47 d48 d49 d50 d51 d52 d53 d54 d55 d56 d57 d58 d59 d60 d61 d62 d63 d64 d65 d66 d67 d68 d69 d70 d71 d72 d73 d74 d75 d76 d77 d78 d79 d80 d81 d82 d83 d84 d85 d86 d87 d88 d89 d90 d91 d92 d93 d94 d95 d96 d97 d98 d99 d100 d101 d102 d103 d104 d105 d106 d107 d108 d109 d110 d111 d112 d113 d114 d115 d116 d117 d118 d119 d120 d121 d122 d123 d124 d125 d126 d127 d128 d129 d130 d131 d132 d133 d134 d135 d136 d137 d138 d139 d140 d141 d142 d143 d144 d145 d146 d147 d148 d149 d150 d151 d152 d153 d154 d155 d156 d157 d158 d159 d160 d161 d162 d163 d164 d165 d166 d167 d168 d169 d170 d171 d172 d173 d174 d175 d176 d177 d178 d179 d180 d181 d182 d183 d184 d185 d186 d187 d188 d189 d190 d191 d192 d193 d194 d195 d196 d197 d198 d199 d200 d201 d202 d203 d204 d205 d206 d207 d208 d209 d210 d211 d212 d213 d214 d215 d216 d217 d218 d219 d220 d221 d222 d223 d224 d225 d226 d227 d228 d229 d230 d231 d232 d233 d234 d235 d236 d237 d238 d239 d240 d241 d242 d243 d244 d245 d246 d247 d248 d249 d250 d251 d252 d253 d254 d255 d256 d257 d258 d259 d260 d261 d262 d263 d264 d265 d266 d267 d268 d269 d270 d271 d272 d273 d274 d275 d276 d277 d278 d279 d280 d281 d282 d283 d284 d285 d286 d287 d288 d289 d290 d291 d292 d293 d294 d295 d296 d297 d298 d299 d300 d301 d302 d303 d304 d305 d306 d307 d308 d309 d310 d311 d312 d313 d314 d315 d316 d317 d318 d319 d320 d321 d322 d323 d324 d325 d326 d327 d328 d329 d330 d331 d332 d333 d334 d335 d336 d337 : Value)
    (hK : ∀ (a : Act) (w' : World), a.defers = [] → HP cf B xm tp (updF s saw orig act nm) w (.returned (.tuple #[])) w' → Q .ret a w') :
    Code.wp Tryd.prog (code52 [1, 1, 1, 1, 1, 1, 1, 1, 1, 1, 1, 1, 1, 1, 1, 1, 1, 1, 1, 1, 1]) Q ⟨#[.pointer (some ⟨cf.c, 0, none⟩), d1, d2, d3, .bool saw, d5, .slice (some ⟨b6, o6, none⟩) n6 c6, d7, d8, d9, d10, d11, d12, .string (S act), .string (S nm), d15, .pointer (some ⟨g, 0, none⟩), d17, d18, d19, d20, d21, d22, d23, d24, d25, d26, d27, d28, d29, d30, d31, d32, d33, d34, d35, d36, d37, d38, d39, d40, d41, d42, d43, d44, d45, d46, d47, d48, d49, d50, d51, d52, d53, d54, d55, d56, d57, d58, d59, d60, d61, d62, d63, d64, d65, d66, d67, d68, d69, d70, d71, d72, d73, d74, d75, d76, d77, d78, d79, d80, d81, d82, d83, d84, d85, d86, d87, d88, d89, d90, d91, d92, d93, d94, d95, d96, d97, d98, d99, d100, d101, d102, d103, d104, d105, d106, d107, d108, d109, d110, d111, d112, d113, d114, d115, d116, d117, d118, d119, d120, d121, d122, d123, d124, d125, d126, d127, d128, d129, d130, d131, d132, d133, d134, d135, d136, d137, d138, d139, d140, d141, d142, d143, d144, d145, d146, d147, d148, d149, d150, d151, d152, d153, d154, d155, d156, d157, d158, d159, d160, d161, d162, d163, d164, d165, d166, d167, d168, d169, d170, d171, d172, d173, d174, d175, d176, d177, d178, d179, d180, d181, d182, d183, d184, d185, d186, d187, d188, d189, d190, d191, d192, d193, d194, d195, d196, d197, d198, d199, d200, d201, d202, d203, d204, d205, d206, d207, d208, d209, d210, d211, d212, d213, d214, d215, d216, d217, d218, d219, d220, d221, d222, d223, d224, d225, d226, d227, d228, d229, d230, d231, d232, d233, d234, d235, d236, d237, d238, d239, d240, d241, d242, d243, d244, d245, d246, d247, d248, d249, d250, d251, d252, d253, d254, d255, d256, d257, d258, d259, d260, d261, d262, d263, d264, d265, d266, d267, d268, d269, d270, d271, d272, d273, d274, d275, d276, d277, d278, d279, d280, d281, d282, d283, d284, d285, d286, d287, d288, d289, d290, d291, d292, d293, d294, d295, d296, d297, d298, d299, d300, d301, d302, d303, d304, d305, d306, d307, d308, d309, d310, d311, d312, d313, d314, d315, d316, d317, d318, d319, d320, d321, d322, d323, d324, d325, d326, d327, d328, d329, d330, d331, d332, d333, d334, d335, d336, d337], []⟩ w := by
  have HK := Lib.hid hK
  clear hK
  have HSRC := Lib.hid hsrc
  have HN6 := Lib.hid hn6
  have HH := Lib.hid (And.intro h (And.intro hb hg))
  have HB2 : Hid (B ≠ g ∧ g ≠ cf.c) := by
    obtain ⟨ρ, rv, gs, ev, xs, kp, r⟩ := h.rows
    have := (List.nodup_cons.1 r.ndx).1
    exact ⟨fun e => this (by rw [e]; exact List.mem_cons_self ..), (h.xlt (by simp : g ∈ g :: B :: xm)).2.2⟩
  -- a store into the event
  have HST : Hid (∀ (w1 : World) (e e' : Ev) (j : Nat) (v : Value), Core cf (g :: B :: xm) tp s w1 → OB cf B s w1 → w1.heap[g]? = some (evBlk e ⟨#[]⟩ (.slice none 0 0)) → (∀ cs, evBlk e ⟨#[]⟩ (.slice none 0 0) = .cells cs 71 (0, 0) → evBlk e' ⟨#[]⟩ (.slice none 0 0) = .cells (cs.setIfInBounds j v) 71 (0, 0)) →
      Core cf (g :: B :: xm) tp s (w1.setCell ⟨g, j, none⟩ v) ∧ OB cf B s (w1.setCell ⟨g, j, none⟩ v) ∧ (w1.setCell ⟨g, j, none⟩ v).heap[g]? = some (evBlk e' ⟨#[]⟩ (.slice none 0 0)) ∧ Same610 cf.c w1 (w1.setCell ⟨g, j, none⟩ v)) :=
    fun w1 e e' j v a1 a2 a3 a4 => by
      have b1 := a1.off (Off.set (b := g) (o := j) (by simp : g ∈ [g]) v w1) (by simp)
      have b2 := Same615.setx w1 (o := j) HB2.out.2 v
      refine ⟨b1, a2.same b2 b1.fr (Below.heap_setCell _ _ _ _ HB2.out.1) rfl, ?_, b2.i⟩
      have := heap_setCell_at (o := j) (cs := _) (show w1.heap[g]? = some (.cells _ 71 (0, 0)) from a3) v
      rw [this, a4 _ rfl]
  have HBL : Hid (∀ (wx w1 : World) (e : Ev), Core cf (g :: B :: xm) tp s wx → OB cf B s wx → wx.heap[g]? = some (evBlk e ⟨#[]⟩ (.slice none 0 0)) → Below wx.heap.size wx w1 → Core cf (g :: B :: xm) tp s w1 ∧ OB cf B s w1 ∧ w1.heap[g]? = some (evBlk e ⟨#[]⟩ (.slice none 0 0)) ∧ Same610 cf.c wx w1) :=
    fun wx w1 e a1 a2 a3 a4 => ⟨a1.below a4, ⟨a2.1.below a4, a2.2⟩, (a4.block g (lt_of_block a3)).trans a3, (Same615.block (a4.block _ a1.lt0.2)).i⟩
  clear h hb hg hsrc hn6
  obtain ⟨aA, haA⟩ : ∃ b, b = decide (act = tArt) := ⟨_, rfl⟩
  have tA : ((S act).data.toList == [97, 114, 116, 105, 102, 97, 99, 116, 115]) = aA := by rw [haA]; exact S_beq_dec act tArt
  have HA := Lib.hid haA
  clear haA
  cases aA with
  | true =>
    have HCut := zzCut_any nm [32] w hnm (by decide) (by decide)
    have HCU := Lib.hid HCut
    clear HCut
    have HU : Hid (updE act nm = ((cutF nm [32]).1, { Ev.of act [] with path := (cutF nm [32]).2 })) := by show _ = _; unfold updE; rw [if_pos (of_decide_eq_true HA.out.symm)]
    refine wp_nop ?_
    conv => arg 2; whnf
    refine wp_seq_k ?_
    intro K hKK
    have HKK := Lib.hid hKK
    clear hKK
    go_wp2_with fail
    refine HCU.out.mono ?_
    rintro en w1 ⟨bb, rfl, hb1⟩
    have h1 := HBL.out w w1 _ HH.out.1 HH.out.2.1 HH.out.2.2 hb1
    have hs := HST.out w1 _ { Ev.of act [] with path := (cutF nm [32]).2 } 8 (.string (S (cutF nm [32]).2)) h1.1 h1.2.1 h1.2.2.1 (fun cs hcs => by unfold evBlk at hcs ⊢; cases hcs; rfl)
    have HW : Hid (Core cf (g :: B :: xm) tp s (w1.setCell ⟨g, 8, none⟩ (.string (S (cutF nm [32]).2))) ∧ OB cf B s (w1.setCell ⟨g, 8, none⟩ (.string (S (cutF nm [32]).2))) ∧ (w1.setCell ⟨g, 8, none⟩ (.string (S (cutF nm [32]).2))).heap[g]? = some (evBlk { Ev.of act [] with path := (cutF nm [32]).2 } ⟨#[]⟩ (.slice none 0 0)) ∧ Same610 cf.c w (w1.setCell ⟨g, 8, none⟩ (.string (S (cutF nm [32]).2)))) := ⟨hs.1, hs.2.1, hs.2.2.1, h1.2.2.2.trans hs.2.2.2⟩
    have c8 : w1.cell? ⟨g, 8, none⟩ = some (.string (S [])) := by simp only [World.cell?, h1.2.2.1, evBlk]; rfl
    have f8 : w1.frozen? ⟨g, 8, none⟩ = false := by simp only [World.frozen?, h1.2.2.1, evBlk]; rfl
    clear h1 hs hb1
    go_wp2_with fail
    refine HKK.out _ _ ?_
    refine stI2 (nm := (cutF nm [32]).1) (e := { Ev.of act [] with path := (cutF nm [32]).2 }) HW.out.1 HW.out.2.1 HW.out.2.2.1 rfl HSRC.out HN6.out hc6 hbig hr _ _ _ _ _ _ _ _ _ _ _ _ _ _ _ _ _ _ _ _ _ _ _ _ _ _ _ _ _ _ _ _ _ _ _ _ _ _ _ _ _ _ _ _ _ _ _ _ _ _ _ _ _ _ _ _ _ _ _ _ _ _ _ _ _ _ _ _ _ _ _ _ _ _ _ _ _ _ _ _ _ _ _ _ _ _ _ _ _ _ _ _ _ _ _ _ _ _ _ _ _ _ _ _ _ _ _ _ _ _ _ _ _ _ _ _ _ _ _ _ _ _ _ _ _ _ _ _ _ _ _ _ _ _ _ _ _ _ _ _ _ _ _ _ _ _ _ _ _ _ _ _ _ _ _ _ _ _ _ _ _ _ _ _ _ _ _ _ _ _ _ _ _ _ _ _ _ _ _ _ _ _ _ _ _ _ _ _ _ _ _ _ _ _ _ _ _ _ _ _ _ _ _ _ _ _ _ _ _ _ _ _ _ _ _ _ _ _ _ _ _ _ _ _ _ _ _ _ _ _ _ _ _ _ _ _ _ _ _ _ _ _ _ _ _ _ _ _ _ _ _ _ _ _ _ _ _ _ _ _ _ _ _ _ _ _ _ _ _ _ _ _ _ _ _ _ _ _ _ _ _ _ _ _ _ _ _ _ _ _ _ _ _ _ _ _ _ _ _ _ _ _ _ _ _ _ _ _ _ _ _ _ _ _ _ _ _ _ _ _ _ _ _ _ _ _ _ _ _ _ _ _ _ ?_
    intro a w' ha hp
    refine HK.out a w' ha ?_
    unfold updF
    rw [HU.out]
    exact ⟨hp.1, hp.2.1, HW.out.2.2.2.trans hp.2.2.1, hp.2.2.2⟩
  | false =>
  obtain ⟨aT, haT⟩ : ∃ b, b = decide (act = tAttr) := ⟨_, rfl⟩
  have tT : ((S act).data.toList == [97, 116, 116, 114]) = aT := by rw [haT]; exact S_beq_dec act tAttr
  have HT := Lib.hid haT
  clear haT
  cases aT with
  | true =>
    have hl2 : (cutF nm [32]).2.length ≤ 1000000 := by have := cutF_len nm [32]; omega
    have HCU := Lib.hid (fun wx => zzCut_any nm [32] wx hnm (by decide) (by decide))
    have HCV := Lib.hid (fun wx => zzCut_any (cutF nm [32]).2 [32] wx hl2 (by decide) (by decide))
    clear hl2
    have HU : Hid (updE act nm = ((cutF nm [32]).1, { Ev.of act [] with key := (cutF (cutF nm [32]).2 [32]).1, value := (cutF (cutF nm [32]).2 [32]).2 })) := by show _ = _; unfold updE; rw [if_neg (of_decide_eq_false HA.out.symm), if_pos (of_decide_eq_true HT.out.symm)]
    refine wp_nop ?_
    conv => arg 2; whnf
    refine wp_seq_k ?_
    intro K hKK
    have HKK := Lib.hid hKK
    clear hKK
    go_wp2_with fail
    refine (HCU.out _).mono ?_
    rintro en w1 ⟨bb, rfl, hb1⟩
    have h1 := HBL.out w w1 _ HH.out.1 HH.out.2.1 HH.out.2.2 hb1
    have HH1 := Lib.hid h1
    clear h1 hb1
    go_wp2_with fail
    refine (HCV.out _).mono ?_
    rintro en w2 ⟨bb2, rfl, hb2⟩
    have h2 := HBL.out w1 w2 _ HH1.out.1 HH1.out.2.1 HH1.out.2.2.1 hb2
    have hs := HST.out w2 _ { Ev.of act [] with key := (cutF (cutF nm [32]).2 [32]).1 } 6 (.string (S (cutF (cutF nm [32]).2 [32]).1)) h2.1 h2.2.1 h2.2.2.1 (fun cs hcs => by unfold evBlk at hcs ⊢; cases hcs; rfl)
    have ht := HST.out _ _ { Ev.of act [] with key := (cutF (cutF nm [32]).2 [32]).1, value := (cutF (cutF nm [32]).2 [32]).2 } 7 (.string (S (cutF (cutF nm [32]).2 [32]).2)) hs.1 hs.2.1 hs.2.2.1 (fun cs hcs => by unfold evBlk at hcs ⊢; cases hcs; rfl)
    have HW := Lib.hid (And.intro ht.1 (And.intro ht.2.1 (And.intro ht.2.2.1 (((HH1.out.2.2.2.trans h2.2.2.2).trans hs.2.2.2).trans ht.2.2.2))))
    have c6 : w2.cell? ⟨g, 6, none⟩ = some (.string (S [])) := by simp only [World.cell?, h2.2.2.1, evBlk]; rfl
    have f6 : w2.frozen? ⟨g, 6, none⟩ = false := by simp only [World.frozen?, h2.2.2.1, evBlk]; rfl
    have c7 : w2.cell? ⟨g, 7, none⟩ = some (.string (S [])) := by simp only [World.cell?, h2.2.2.1, evBlk]; rfl
    have f7 : w2.frozen? ⟨g, 7, none⟩ = false := by simp only [World.frozen?, h2.2.2.1, evBlk]; rfl
    clear h2 hs ht hb2
    go_wp2_with fail
    refine HKK.out _ _ ?_
    refine stI2 (nm := (cutF nm [32]).1) (e := { Ev.of act [] with key := (cutF (cutF nm [32]).2 [32]).1, value := (cutF (cutF nm [32]).2 [32]).2 }) HW.out.1 HW.out.2.1 HW.out.2.2.1 rfl HSRC.out HN6.out hc6 hbig hr _ _ _ _ _ _ _ _ _ _ _ _ _ _ _ _ _ _ _ _ _ _ _ _ _ _ _ _ _ _ _ _ _ _ _ _ _ _ _ _ _ _ _ _ _ _ _ _ _ _ _ _ _ _ _ _ _ _ _ _ _ _ _ _ _ _ _ _ _ _ _ _ _ _ _ _ _ _ _ _ _ _ _ _ _ _ _ _ _ _ _ _ _ _ _ _ _ _ _ _ _ _ _ _ _ _ _ _ _ _ _ _ _ _ _ _ _ _ _ _ _ _ _ _ _ _ _ _ _ _ _ _ _ _ _ _ _ _ _ _ _ _ _ _ _ _ _ _ _ _ _ _ _ _ _ _ _ _ _ _ _ _ _ _ _ _ _ _ _ _ _ _ _ _ _ _ _ _ _ _ _ _ _ _ _ _ _ _ _ _ _ _ _ _ _ _ _ _ _ _ _ _ _ _ _ _ _ _ _ _ _ _ _ _ _ _ _ _ _ _ _ _ _ _ _ _ _ _ _ _ _ _ _ _ _ _ _ _ _ _ _ _ _ _ _ _ _ _ _ _ _ _ _ _ _ _ _ _ _ _ _ _ _ _ _ _ _ _ _ _ _ _ _ _ _ _ _ _ _ _ _ _ _ _ _ _ _ _ _ _ _ _ _ _ _ _ _ _ _ _ _ _ _ _ _ _ _ _ _ _ _ _ _ _ _ _ _ _ _ _ _ _ _ _ _ _ _ _ _ _ _ _ _ ?_
    intro a w' ha hp
    refine HK.out a w' ha ?_
    unfold updF
    rw [HU.out]
    exact ⟨hp.1, hp.2.1, HW.out.2.2.2.trans hp.2.2.1, hp.2.2.2⟩
  | false =>
    have HU : Hid (updE act nm = (nm, Ev.of act [])) := by show _ = _; unfold updE; rw [if_neg (of_decide_eq_false HA.out.symm), if_neg (of_decide_eq_false HT.out.symm)]
    have HW : Hid (Core cf (g :: B :: xm) tp s w ∧ OB cf B s w ∧ w.heap[g]? = some (evBlk (Ev.of act []) ⟨#[]⟩ (.slice none 0 0)) ∧ Same610 cf.c w w) := ⟨HH.out.1, HH.out.2.1, HH.out.2.2, Same610.refl _ _⟩
    refine wp_nop ?_
    conv => arg 2; whnf
    refine wp_seq_k ?_
    intro K hKK
    have HKK := Lib.hid hKK
    clear hKK
    go_wp2_with fail
    refine HKK.out _ _ ?_
    refine stI2 (nm := nm) (e := Ev.of act []) HW.out.1 HW.out.2.1 HW.out.2.2.1 rfl HSRC.out HN6.out hc6 hbig hr _ _ _ _ _ _ _ _ _ _ _ _ _ _ _ _ _ _ _ _ _ _ _ _ _ _ _ _ _ _ _ _ _ _ _ _ _ _ _ _ _ _ _ _ _ _ _ _ _ _ _ _ _ _ _ _ _ _ _ _ _ _ _ _ _ _ _ _ _ _ _ _ _ _ _ _ _ _ _ _ _ _ _ _ _ _ _ _ _ _ _ _ _ _ _ _ _ _ _ _ _ _ _ _ _ _ _ _ _ _ _ _ _ _ _ _ _ _ _ _ _ _ _ _ _ _ _ _ _ _ _ _ _ _ _ _ _ _ _ _ _ _ _ _ _ _ _ _ _ _ _ _ _ _ _ _ _ _ _ _ _ _ _ _ _ _ _ _ _ _ _ _ _ _ _ _ _ _ _ _ _ _ _ _ _ _ _ _ _ _ _ _ _ _ _ _ _ _ _ _ _ _ _ _ _ _ _ _ _ _ _ _ _ _ _ _ _ _ _ _ _ _ _ _ _ _ _ _ _ _ _ _ _ _ _ _ _ _ _ _ _ _ _ _ _ _ _ _ _ _ _ _ _ _ _ _ _ _ _ _ _ _ _ _ _ _ _ _ _ _ _ _ _ _ _ _ _ _ _ _ _ _ _ _ _ _ _ _ _ _ _ _ _ _ _ _ _ _ _ _ _ _ _ _ _ _ _ _ _ _ _ _ _ _ _ _ _ _ _ _ _ _ _ _ _ _ _ _ _ _ _ _ _ ?_
    intro a w' ha hp
    refine HK.out a w' ha ?_
    unfold updF
    rw [HU.out]
    exact ⟨hp.1, hp.2.1, HW.out.2.2.2.trans hp.2.2.1, hp.2.2.2⟩


end Go.Proofs.YtdljobmhnnegiaaDoor

/- A report is appended to those that are pending. -/
namespace Go.Proofs.YtdljobmhnnegiaaDoor
open Go.RowKit

section
variable {cf : Cf} {xm : List Nat} {tp : List (Nat × Obj)} {s : CS} {w w' W : World} {ρ : Nat → Nat} {rv : Value} {gs : List Nat} {ev : Value} {xs : List Value} {kp : List (Nat × Obj)} {g : Nat}

theorem Core.push (h : Core cf (g :: xm) tp s w) (r : Rows cf (g :: xm) tp s w ρ rv gs ev xs kp) {p : List UInt8 × List UInt8} (hg : w.heap[g]? = some (repBlk p)) {v' : Value} (hb : Below w.heap.size w W)
    (hown : w'.ownsRow 0 91 1 v' (s.report.length + 1) (ptrs gs ++ [.pointer (some ⟨g, 0, none⟩)])) (hgr : W.grownBy w' rv.ownBlock) (hat : v'.ownBlock = rv.ownBlock ∨ v'.ownBlock = some W.heap.size) :
    Core cf xm tp { s with report := s.report ++ [p] } (w'.setCell ⟨cf.c, 4, none⟩ v') ∧ Same615 cf.c w (w'.setCell ⟨cf.c, 4, none⟩ v') := by
  have hsz : w.heap.size ≤ W.heap.size := hb.size
  have hsz2 : W.heap.size ≤ w'.heap.size := hgr.size
  have hz3 : (w'.setCell ⟨cf.c, 4, none⟩ v').heap.size = w'.heap.size := by simp [World.setCell]
  have hk : ∀ k, ρ k < 8 → ρ k ≠ 2 → w'.heap[k]? = w.heap[k]? := fun k h1 h3 => by
    have hlt := (r.lim k h1).2
    rw [hgr.block k (by omega) (fun e => h3 (r.r2 k e.symm)), hb.block k hlt]
  have hkc : ∀ k n, ρ k = n → n < 8 → n ≠ 2 → n ≠ 0 → (w'.setCell ⟨cf.c, 4, none⟩ v').heap[k]? = w.heap[k]? := fun k n e h1 h2 h3 => by
    rw [Below.heap_setCell _ _ _ _ (fun e' => h3 (by rw [← e, show k = cf.c from e']; exact r.r0)), hk k (by omega) (by omega)]
  have hc : w'.heap[cf.c]? = w.heap[cf.c]? := hk cf.c (by rw [r.r0]; decide) (by rw [r.r0]; decide)
  have hcell : ∀ j, j ≠ 4 → (w'.setCell ⟨cf.c, 4, none⟩ v').cell? ⟨cf.c, j, none⟩ = w.cell? ⟨cf.c, j, none⟩ := fun j hj => by
    rw [cell_set_ne (by omega)]; exact World.cell?_of_block (w := w) hc
  have hg5 : ρ g = 5 := r.r5 g (List.mem_cons_self ..)
  have hgx := (List.nodup_cons.1 r.ndx).1
  have hρn : ∀ k, ρ k < 8 → k ≠ W.heap.size := fun k hk => by have := (r.lim k hk).2; omega
  have hρ : ∀ k n, ρ k = n → n < 8 → k ≠ g → (if k = g then 4 else if k = W.heap.size then (if v'.ownBlock = some W.heap.size then 2 else 8) else ρ k) = n := fun k n e hn hng => by
    rw [if_neg hng, if_neg (hρn k (by omega))]; exact e
  have hρ' : ∀ k n, ρ k = n → n < 8 → n ≠ 5 → (if k = g then 4 else if k = W.heap.size then (if v'.ownBlock = some W.heap.size then 2 else 8) else ρ k) = n := fun k n e hn h5 =>
    hρ k n e hn (fun e' => h5 (by rw [← e, e']; exact hg5))
  refine ⟨⟨?_, h.g0, fun j v hv => ?_, fun j => ?_, (fun k => if k = g then 4 else if k = W.heap.size then (if v'.ownBlock = some W.heap.size then 2 else 8) else ρ k), v', gs ++ [g], ev, xs, kp, ?_⟩, fun j h1 h2 => hcell j (by omega)⟩
  · have hbel : Below cf.w0.heap.size cf.w0 W := h.bel.trans (hb.mono h.bel.size)
    refine (hbel.grown hgr (Nat.le_trans h.bel.size hsz) (fun k hk => (r.lim k (by rw [r.r2 k hk]; omega)).1)).setCell (show cf.w0.heap.size ≤ cf.c from h.lt0.1) v'
  · rw [hcell j (fun e => by rw [e] at hv; cases hv)]; exact h.cells j v hv
  · rw [World.frozen?_setCell, World.frozen?_of_block (w := w) (a := ⟨cf.c, j, none⟩) hc]; exact h.fr j
  · have hl1 : (gs ++ [g]).length = (s.report ++ [p]).length := by simp [r.rlen]
    have hold : w'.cell? ⟨cf.c, 4, none⟩ = some rv := (World.cell?_of_block (w := w) hc).trans r.rcell
    refine { rcell := World.cell?_setCell_same _ _ _ hold, rrow := ?_, rblk := fun q hq => ?_, rlen := hl1, ocell := (hkc _ 1 r.r1 (by omega) (by omega) (by omega)).trans r.ocell, orow := ownsRow_same r.orow fun k hk2 => hkc k 3 (r.r3 k hk2) (by omega) (by omega) (by omega), oev := r.oev, tpb := fun x hx => (hkc _ 6 (r.r6 x hx) (by omega) (by omega) (by omega)).trans (r.tpb x hx), kpb := fun x hx => (hkc _ 7 (r.r7 x hx) (by omega) (by omega) (by omega)).trans (r.kpb x hx), lim := fun k hk2 => ?_, r0 := hρ' _ _ r.r0 (by omega) (by omega), r1 := hρ' _ _ r.r1 (by omega) (by omega), r2 := fun k hk2 => ?_, r3 := fun k hk2 => hρ' _ _ (r.r3 k hk2) (by omega) (by omega), r4 := fun k hk2 => ?_, r5 := fun k hk2 => ?_, r6 := fun k hk2 => hρ' _ _ (r.r6 k hk2) (by omega) (by omega), r7 := fun k hk2 => hρ' _ _ (r.r7 k hk2) (by omega) (by omega), ndg := ?_, ndx := (List.nodup_cons.1 r.ndx).2, ndt := r.ndt }
    · have e1 : (s.report ++ [p]).length = s.report.length + 1 := by simp
      have e2 : ptrs (gs ++ [g]) = ptrs gs ++ [.pointer (some ⟨g, 0, none⟩)] := by simp [ptrs]
      show World.ownsRow _ 0 91 1 v' (s.report ++ [p]).length _
      rw [e1, e2]
      refine ownsRow_same hown fun k hk2 => Below.heap_setCell _ _ _ _ (fun e => ?_)
      have e' : k = cf.c := e
      rcases hat with hat | hat
      · rw [hat] at hk2; have := r.r2 k hk2; rw [e', r.r0] at this; omega
      · rw [hat] at hk2; cases hk2
        have := (r.lim cf.c (by rw [r.r0]; decide)).2
        omega
    · rw [List.zip_append r.rlen] at hq
      rcases List.mem_append.1 hq with hq | hq
      · exact (hkc q.1 4 (r.r4 _ (List.of_mem_zip hq).1) (by omega) (by omega) (by omega)).trans (r.rblk q hq)
      · simp at hq
        subst hq
        exact (hkc g 5 hg5 (by omega) (by omega) (by omega)).trans hg
    · rw [hz3]
      by_cases e1 : k = g
      · have := r.lim g (by omega)
        rw [e1]; omega
      · rw [if_neg e1] at hk2
        by_cases e2 : k = W.heap.size
        · rw [if_pos e2] at hk2
          by_cases e3 : v'.ownBlock = some W.heap.size
          · have := (hown.lt k (by rw [e2]; exact e3)).2
            have := h.bel.size
            omega
          · rw [if_neg e3] at hk2; omega
        · rw [if_neg e2] at hk2
          have := r.lim k hk2
          omega
    · rcases hat with hat | hat
      · rw [hat] at hk2; exact hρ' _ _ (r.r2 k hk2) (by omega) (by omega)
      · rw [hat] at hk2; cases hk2
        rw [if_neg (fun e => by have := (r.lim g (by omega)).2; omega), if_pos rfl, if_pos hat]
    · rcases List.mem_append.1 hk2 with hk2 | hk2
      · exact hρ' _ _ (r.r4 k hk2) (by omega) (by omega)
      · simp at hk2
        rw [if_pos hk2]
    · exact hρ _ _ (r.r5 k (List.mem_cons_of_mem _ hk2)) (by omega) (fun e => hgx (by rw [← e]; exact hk2))
    · rw [List.nodup_append]
      refine ⟨r.ndg, by simp, fun a ha b hb2 => ?_⟩
      simp at hb2
      subst hb2
      intro e
      have := r.r4 a ha
      rw [e] at this
      omega
end

theorem info91 : (Tryd.prog.info? 91).map (fun i => (i.zero, i.size, i.bytes)) = some (some (.pointer none), 1, 8) := by kernel_rfl

end Go.Proofs.YtdljobmhnnegiaaDoor

/- handleInputLine: a report is told. -/
namespace Go.Proofs.YtdljobmhnnegiaaDoor
open Go.RowKit

set_option maxRecDepth 100000 in
set_option maxHeartbeats 40000000 in
theorem stH2 {cf : Cf} {B : Nat} {xm : List Nat} {tp : List (Nat × Obj)} {s : CS} {w : World} {g b6 o6 n6 c6 ind : Nat} {saw : Bool} {act nm orig : List UInt8}
    (h : Core cf (g :: B :: xm) tp s w) (hb : OB cf B s w) (hg : w.heap[g]? = some (evBlk (Ev.of act []) ⟨#[]⟩ (.slice none 0 0))) (hsrc : Src tp b6 o6 orig) (hn6 : n6 = orig.length) (hc6 : n6 ≤ c6) (hbig : n6 ≤ 1000000)
    (hr : pe s + s.report.length + 2 * n6 ≤ 9000000) (hind : ind ≤ 1000000)
    (Q : Exit → Act → World → Prop) (d1 d2 d3 d5 d7 d9 d10 d11 d12 d13 d15 d17 d18 d19 d20 d21 d22 d23 d24 d25 d26 d27 d28 d29 d30 d31 d32 d33 d34 d35 d36 d37 d38 d39 d40 d41 d42 d43 d44 d45 d46 d47 d48 d49 d50 d51 d52 d53 d54 d55 d56 d57 d58 d59 d60 d61 d62 d63 d64 d65 d66 d67 d68 d69 d70 d71 d72 d73 d74 d75 d76 d77 d78 d79 d80 d81 d82 d83 d84 d85 d86 d87 d88 d89 d90 d91 d92 d93 d94 d95 d96 d97 d98 d99 d100 d101 d102 d103 d104 d105 d106 d107 d108 d109 d110 d111 d112 d113 d114 d115 d116 d117 d118 d119 d120 d121 d122 d123 d124 d125 d126 d127 d128 d129 d130 d131 d132 d133 d134 d135 d136 d137 d138 d139 d140 d141 d142 d143 d144 d145 d146 d147 d148 d149 d150 d151 d152 d153 d154 d155 d156 d157 d158 d159 d160 d161 d162 d163 d164 d165 d166 d167 d168 d169 d170 d171 d172 d173 d174 d175 d176 d177 d178 d179 d180 d181 d182 d183 d184 d185 d186 d187 d188 d189 d190 d191 d192 d193 d194 d195 d196 d197 d198 d199 d200 d201 d202 d203 d204 d205 d206 d207 d208 d209 d210 d211 d212 d213 d214 d215 d216 d217 d218 d219 d220 d221 d222 d223 d224 d225 d226 d227 d228 d229 d230 d231 d232 d233 d234 d235 d236 d237 d238 d239 d240 d241 d242 d243 d244 d245 d246 d247 d248 d249 d250 d251 d252 d253 d254 d255 d256 d257 d258 d259 d260 d261 d262 d263 d264 d265 d266 d267 d268 d269 d270 d271 d272 d273 d274 d275 d276 d277 d278 d279 d280 d281 d282 d283 d284 d285 d286 d287 d288 d289 d290 d291 d292 d293 d294 d295 d296 d297 d298 d299 d300 d301 d302 d303 d304 d305 d306 d307 d308 d309 d310 d311 d312 d313 d314 d315 d316 d317 d318 d319 d320 d321 d322 d323 d324 d325 d326 d327 d328 d329 d330 d331 d332 d333 d334 d335 d336 d337 : Value)
    (hK : ∀ (a : Act) (w' : World), a.defers = [] → HP cf B xm tp (if s.report.length < ind then outW s orig else frameF { flushRep { s with mFraming := saw } ind with name := nm, report := (flushRep { s with mFraming := saw } ind).report ++ [(act, nm)] } orig) w (.returned (.tuple #[])) w' → Q .ret a w') :
    Code.wp Tryd.prog (code52 [1, 1, 1, 1, 1, 1, 1, 1, 1, 1, 1, 1, 1, 1, 1, 1, 1, 1, 1, 1, 0, 1, 0, 1]) Q ⟨#[.pointer (some ⟨cf.c, 0, none⟩), d1, d2, d3, .bool saw, d5, .slice (some ⟨b6, o6, none⟩) n6 c6, d7, .int .i64 (ind : Int), d9, d10, d11, d12, d13, .string (S nm), d15, .pointer (some ⟨g, 0, none⟩), d17, d18, d19, d20, d21, d22, d23, d24, d25, d26, d27, d28, d29, d30, d31, d32, d33, d34, d35, d36, d37, d38, d39, d40, d41, d42, d43, d44, d45, d46, d47, d48, d49, d50, d51, d52, d53, d54, d55, d56, d57, d58, d59, d60, d61, d62, d63, d64, d65, d66, d67, d68, d69, d70, d71, d72, d73, d74, d75, d76, d77, d78, d79, d80, d81, d82, d83, d84, d85, d86, d87, d88, d89, d90, d91, d92, d93, d94, d95, d96, d97, d98, d99, d100, d101, d102, d103, d104, d105, d106, d107, d108, d109, d110, d111, d112, d113, d114, d115, d116, d117, d118, d119, d120, d121, d122, d123, d124, d125, d126, d127, d128, d129, d130, d131, d132, d133, d134, d135, d136, d137, d138, d139, d140, d141, d142, d143, d144, d145, d146, d147, d148, d149, d150, d151, d152, d153, d154, d155, d156, d157, d158, d159, d160, d161, d162, d163, d164, d165, d166, d167, d168, d169, d170, d171, d172, d173, d174, d175, d176, d177, d178, d179, d180, d181, d182, d183, d184, d185, d186, d187, d188, d189, d190, d191, d192, d193, d194, d195, d196, d197, d198, d199, d200, d201, d202, d203, d204, d205, d206, d207, d208, d209, d210, d211, d212, d213, d214, d215, d216, d217, d218, d219, d220, d221, d222, d223, d224, d225, d226, d227, d228, d229, d230, d231, d232, d233, d234, d235, d236, d237, d238, d239, d240, d241, d242, d243, d244, d245, d246, d247, d248, d249, d250, d251, d252, d253, d254, d255, d256, d257, d258, d259, d260, d261, d262, d263, d264, d265, d266, d267, d268, d269, d270, d271, d272, d273, d274, d275, d276, d277, d278, d279, d280, d281, d282, d283, d284, d285, d286, d287, d288, d289, d290, d291, d292, d293, d294, d295, d296, d297, d298, d299, d300, d301, d302, d303, d304, d305, d306, d307, d308, d309, d310, d311, d312, d313, d314, d315, d316, d317, d318, d319, d320, d321, d322, d323, d324, d325, d326, d327, d328, d329, d330, d331, d332, d333, d334, d335, d336, d337], []⟩ w := by
  have HK := Lib.hid hK
  clear hK
  have HSRC := Lib.hid hsrc
  have HN6 := Lib.hid hn6
  have HH := Lib.hid (And.intro h (And.intro hb hg))
  have HR := Lib.hid hr
  have HB2 : Hid (B ≠ g ∧ g ≠ cf.c) := by
    obtain ⟨ρ, rv, gs, ev, xs, kp, r⟩ := h.rows
    have := (List.nodup_cons.1 r.ndx).1
    exact ⟨fun e => this (by rw [e]; exact List.mem_cons_self ..), (h.xlt (by simp : g ∈ g :: B :: xm)).2.2⟩
  obtain ⟨a4, cap4, c4⟩ := h.rep_len
  obtain ⟨rl, hrl⟩ : ∃ rl, rl = s.report.length := ⟨_, rfl⟩
  rw [← hrl] at c4
  have HRL := Lib.hid hrl
  unfold pe at hr
  have hrl9 : rl ≤ 9000000 := by omega
  clear hrl hr hsrc hn6
  by_cases hlt : rl < ind
  · have hout := outW_any h.swap (show OB cf B s w from hb) HSRC.out n6 c6 HN6.out hc6 (by omega) (by have := HR.out; omega)
    have HOUT := Lib.hid hout
    have HU : Hid (s.report.length < ind) := by rw [← HRL.out]; exact hlt
    clear h hb hg hout
    refine wp_nop ?_
    conv => arg 2; whnf
    go_wp2_with fail
    refine HOUT.out.mono ?_
    rintro en w1 ⟨rfl, hC, hS, hO, _⟩
    have H3 : Hid (HP cf B xm tp (outW s orig) w (.returned (.tuple #[])) w1) := ⟨rfl, hC.swap.drop, hS, hO⟩
    clear hC hS hO
    go_wp2_with fail
    refine HK.out _ _ rfl ?_
    rw [if_pos HU.out]
    exact H3.out
  · have HU : Hid (¬ s.report.length < ind) := by rw [← HRL.out]; exact hlt
    have hset := h.setMF saw
    have hC1 := hset.1.take (b := g) ((Below.heap_setCell w ⟨cf.c, 16, none⟩ (.bool saw) g HB2.out.2).trans hg)
    have hO1 : OB cf B { s with mFraming := saw } (w.setCell ⟨cf.c, 16, none⟩ (.bool saw)) := hb.same hset.2 hset.1.fr (Below.heap_setCell _ _ _ _ hb.1.ne) rfl
    have hfl := flushRepO hC1 hO1 ind (by omega) (by show s.report.length ≤ _; rw [← HRL.out]; omega) (by show s.evs.length + s.report.length ≤ _; have := HR.out; unfold pe at this; omega)
    have HF := Lib.hid hfl
    have HS1 : Hid (Same610 cf.c w (w.setCell ⟨cf.c, 16, none⟩ (.bool saw))) := hset.2.i
    have f16 := h.fr 16
    have c16 := h.cells 16 _ rfl
    obtain ⟨s1, hs1⟩ : ∃ s1, s1 = flushRep { s with mFraming := saw } ind := ⟨_, rfl⟩
    rw [← hs1] at HF
    have hs1p : pe s1 + s1.report.length + 2 * n6 ≤ 9000000 := by
      have := HR.out
      rw [hs1]
      unfold flushRep pe
      unfold pe at this
      simp
      omega
    have HS1P := Lib.hid hs1p
    have HS1E := Lib.hid hs1
    clear hset hC1 hO1 hfl hs1 hs1p h hb hg
    refine wp_nop ?_
    conv => arg 2; whnf
    go_wp2_with fail
    refine HF.out.mono ?_
    rintro en w1 ⟨rfl, hC1, hS1, hO1⟩
    have hg1 := hC1.give
    -- the event's test
    have hC2 := hg1.1.off (Off.set (b := g) (o := 2) (by simp : g ∈ [g]) (.string (S nm)) w1) (by simp)
    have hb2 := heap_setCell_at (o := 2) (cs := _) (show w1.heap[g]? = some (.cells _ 71 (0, 0)) from hg1.2) (.string (S nm))
    have hS2 : Same615 cf.c w1 (w1.setCell ⟨g, 2, none⟩ (.string (S nm))) := Same615.setx w1 HB2.out.2 _
    have hO2 : OB cf B s1 (w1.setCell ⟨g, 2, none⟩ (.string (S nm))) := hO1.same hS2 hC2.fr (Below.heap_setCell _ _ _ _ HB2.out.1) rfl
    -- the name
    have hn := hC2.setName nm
    have hb3 : ((w1.setCell ⟨g, 2, none⟩ (.string (S nm))).setCell ⟨cf.c, 3, none⟩ (.string (S nm))).heap[g]? = some (repBlk (act, nm)) := by
      rw [Below.heap_setCell _ _ _ _ HB2.out.2]; exact hb2
    have hO3 : OB cf B { s1 with name := nm } ((w1.setCell ⟨g, 2, none⟩ (.string (S nm))).setCell ⟨cf.c, 3, none⟩ (.string (S nm))) := hO2.same hn.2 hn.1.fr (Below.heap_setCell _ _ _ _ hO2.1.ne) rfl
    obtain ⟨w2, hw2⟩ : ∃ w2, w2 = (w1.setCell ⟨g, 2, none⟩ (.string (S nm))).setCell ⟨cf.c, 3, none⟩ (.string (S nm)) := ⟨_, rfl⟩
    have H2 : Hid (Core cf (g :: B :: xm) tp { s1 with name := nm } w2 ∧ w2.heap[g]? = some (repBlk (act, nm)) ∧ OB cf B { s1 with name := nm } w2 ∧ Same610 cf.c w w2) := by
      rw [hw2]; exact ⟨hn.1, hb3, hO3, ((HS1.out.trans hS1).trans hS2.i).trans hn.2.i⟩
    have HW2 := Lib.hid hw2
    have g2 : w1.cell? ⟨g, 2, none⟩ = some (.string (S [])) := by simp only [World.cell?, hg1.2, evBlk]; rfl
    have gf2 : w1.frozen? ⟨g, 2, none⟩ = false := by simp only [World.frozen?, hg1.2, evBlk]; rfl
    have c3 := hC1.cells 3 _ rfl
    have f3 := hC1.fr 3
    have hgc : g ≠ cf.c := HB2.out.2
    clear hC1 hS1 hO1 hg1 hC2 hb2 hS2 hO2 hn hb3 hO3 hw2 c16 f16 c4
    go_upto_region 64 with fail
    rw [← HW2.out]
    clear g2 gf2 c3 f3 hgc
    obtain ⟨ρ, rv, gs, ev, xs, kp, r⟩ := H2.out.1.rows
    have HRR := Lib.hid r
    have c4 := r.rcell
    have f4 := H2.out.1.fr 4
    have hrow : (w2.alloc (.cells #[.pointer (some ⟨g, 0, none⟩)] 91)).ownsRow 0 91 1 rv s1.report.length (ptrs gs) := r.rrow.alloc _
    have HROW := Lib.hid hrow
    have HB : Hid (Below w2.heap.size w2 (w2.alloc (.cells #[.pointer (some ⟨g, 0, none⟩)] 91))) := (Below.refl _ _).alloc (Nat.le_refl _) _
    have hvf : ∃ p n c, rv = .slice p n c := by
      rcases r.rrow.2 with ⟨h, _⟩ | ⟨_, _, _, h, _⟩
      · exact ⟨_, _, _, h⟩
      · exact ⟨_, _, _, h⟩
    obtain ⟨vp, vn, vc, rfl⟩ := hvf
    have hpush := fun (v' : Value) (w3 : World) (a1 : w3.ownsRow 0 91 1 v' (s1.report.length + 1) (ptrs gs ++ [.pointer (some ⟨g, 0, none⟩)])) (a2 : (w2.alloc (.cells #[.pointer (some ⟨g, 0, none⟩)] 91)).grownBy w3 (Value.slice vp vn vc).ownBlock) (a3 : v'.ownBlock = (Value.slice vp vn vc).ownBlock ∨ v'.ownBlock = some (w2.alloc (.cells #[.pointer (some ⟨g, 0, none⟩)] 91)).heap.size) =>
      H2.out.1.push r H2.out.2.1 HB.out a1 a2 a3
    have HPU := Lib.hid hpush
    have HBW : Hid (∀ (v' : Value) (w3 : World), (w2.alloc (.cells #[.pointer (some ⟨g, 0, none⟩)] 91)).grownBy w3 (Value.slice vp vn vc).ownBlock → (w3.setCell ⟨cf.c, 4, none⟩ v').heap[B]? = w2.heap[B]? ∧ w3.cell? ⟨cf.c, 4, none⟩ = some (.slice vp vn vc) ∧ w3.frozen? ⟨cf.c, 4, none⟩ = false) := fun v' w3 a2 => by
      have hBx := H2.out.1.xlt (List.mem_cons_of_mem g (List.mem_cons_self (a := B) (l := xm)))
      have hBlt := hBx.2.1
      have hclt := H2.out.1.lt0.2
      have e1 : w3.heap[B]? = w2.heap[B]? := by
        rw [a2.block B (by simp; omega) (fun e => by have h1 := r.r2 B e.symm; have h2 := r.r5 B (List.mem_cons_of_mem _ (List.mem_cons_self ..)); omega), Below.heap_alloc _ _ _ hBlt]
      have e2 : w3.heap[cf.c]? = w2.heap[cf.c]? := by
        rw [a2.block cf.c (by simp; omega) (fun e => by have h1 := r.r2 _ e.symm; have h2 := r.r0; omega), Below.heap_alloc _ _ _ hclt]
      exact ⟨by rw [Below.heap_setCell _ _ _ _ hBx.2.2]; exact e1, (World.cell?_of_block (w := w2) (a := ⟨cf.c, 4, none⟩) e2).trans c4, (World.frozen?_of_block (w := w2) (a := ⟨cf.c, 4, none⟩) e2).trans f4⟩
    have hgs : (w2.alloc (.cells #[.pointer (some ⟨g, 0, none⟩)] 91)).heap[w2.heap.size]? = some (.cells #[.pointer (some ⟨g, 0, none⟩)] 91 (0, 0)) := heap_alloc_new _ _
    have HNEWS := Lib.hid (World.news_of_block hgs)
    obtain ⟨rn, hrn⟩ : ∃ rn, rn = s1.report.length := ⟨_, rfl⟩
    rw [← hrn] at HROW HPU
    have hrnb : rn ≤ 9000000 := by have := HS1P.out; omega
    have HRN := Lib.hid hrn
    obtain ⟨i0, hi, hz0, hz1, hz2⟩ := info_parts info91
    clear hpush hrow hgs r hrn
    go_wp2_with (at_builtin; refine wpList_append_lies _ rfl (.tmp 272) (.tmp 274) 87 rfl 0 91 i0 (.pointer none) 1 8 Tryd.underlying87 hi hz0 hz1 hz2 rfl (by decide) (.slice vp vn vc) rn (ptrs gs) rfl HROW.out ⟨w2.heap.size, 0, none⟩ 1 1 [.pointer (some ⟨g, 0, none⟩)] rfl rfl HNEWS.out (by intro u hu; simp at hu; subst hu; rfl) (by decide) (by unfold maxLen; omega) (by omega) (Nat.zero_le _) _ rfl ?_; intro g' cap' w3 ho3 hg3 hat3 _; have hbw := HBW.out (.slice (some ⟨g', 0, none⟩) (rn + 1) cap') w3 hg3; have hpu := HPU.out (.slice (some ⟨g', 0, none⟩) (rn + 1) cap') w3 ho3 hg3 (hat3.elim (fun a => .inl (by rw [a]; rfl)) (fun a => .inr (by rw [← a]; rfl))); have HPP := Lib.hid hpu; have HBB := Lib.hid hbw.1; have d4 := hbw.2.1; have e4 := hbw.2.2; clear hbw hpu c4 f4 ho3 hg3 hat3)
    have hO4 : OB cf B { s1 with name := nm, report := s1.report ++ [(act, nm)] } (w3.setCell ⟨cf.c, 4, none⟩ (.slice (some ⟨g', 0, none⟩) (rn + 1) cap')) := H2.out.2.2.1.same HPP.out.2 HPP.out.1.fr HBB.out rfl
    have hfr := frame_any HPP.out.1 hO4 HSRC.out n6 c6 HN6.out hc6 (by omega) (by have := HS1P.out; unfold pe at this ⊢; dsimp only; omega)
    have HFR := Lib.hid hfr
    clear hO4 hfr d4 e4
    refine HFR.out.mono ?_
    rintro en w4 ⟨rfl, hC4, hS4, hO4, _⟩
    have H3 : Hid (HP cf B xm tp (frameF { s1 with name := nm, report := s1.report ++ [(act, nm)] } orig) w (.returned (.tuple #[])) w4) := ⟨rfl, hC4, (H2.out.2.2.2.trans HPP.out.2.i).trans hS4, hO4⟩
    clear hC4 hS4 hO4
    go_wp2_with fail
    refine HK.out _ _ rfl ?_
    rw [if_neg HU.out, ← HS1E.out]
    exact H3.out

set_option maxRecDepth 100000 in
set_option maxHeartbeats 40000000 in
theorem stH {cf : Cf} {B : Nat} {xm : List Nat} {tp : List (Nat × Obj)} {s : CS} {w : World} {g b6 o6 n6 c6 ind : Nat} {saw : Bool} {act nm orig : List UInt8}
    (h : Core cf (g :: B :: xm) tp s w) (hb : OB cf B s w) (hg : w.heap[g]? = some (evBlk (Ev.of act []) ⟨#[]⟩ (.slice none 0 0))) (hsrc : Src tp b6 o6 orig) (hn6 : n6 = orig.length) (hc6 : n6 ≤ c6) (hbig : n6 ≤ 1000000)
    (hr : pe s + s.report.length + 2 * n6 ≤ 9000000) (hnm : nm.length ≤ 1000000) (hind : ind ≤ 1000000)
    (Q : Exit → Act → World → Prop) (d1 d2 d3 d5 d7 d9 d10 d11 d12 d13 d15 d17 d18 d19 d20 d21 d22 d23 d24 d25 d26 d27 d28 d29 d30 d31 d32 d33 d34 d35 d36 d37 d38 d39 d40 d41 d42 d43 d44 d45 d46 d47 d48 d49 d50 d51 d52 d53 d54 d55 d56 d57 d58 d59 d60 d61 d62 d63 d64 d65 d66 d67 d68 d69 d70 d71 d72 d73 d74 d75 d76 d77 d78 d79 d80 d81 d82 d83 d84 d85 d86 d87 d88 d89 d90 d91 d92 d93 d94 d95 d96 d97 d98 d99 d100 d101 d102 d103 d104 d105 d106 d107 d108 d109 d110 d111 d112 d113 d114 d115 d116 d117 d118 d119 d120 d121 d122 d123 d124 d125 d126 d127 d128 d129 d130 d131 d132 d133 d134 d135 d136 d137 d138 d139 d140 d141 d142 d143 d144 d145 d146 d147 d148 d149 d150 d151 d152 d153 d154 d155 d156 d157 d158 d159 d160 d161 d162 d163 d164 d165 d166 d167 d168 d169 d170 d171 d172 d173 d174 d175 d176 d177 d178 d179 d180 d181 d182 d183 d184 d185 d186 d187 d188 d189 d190 d191 d192 d193 d194 d195 d196 d197 d198 d199 d200 d201 d202 d203 d204 d205 d206 d207 d208 d209 d210 d211 d212 d213 d214 d215 d216 d217 d218 d219 d220 d221 d222 d223 d224 d225 d226 d227 d228 d229 d230 d231 d232 d233 d234 d235 d236 d237 d238 d239 d240 d241 d242 d243 d244 d245 d246 d247 d248 d249 d250 d251 d252 d253 d254 d255 d256 d257 d258 d259 d260 d261 d262 d263 d264 d265 d266 d267 d268 d269 d270 d271 d272 d273 d274 d275 d276 d277 d278 d279 d280 d281 d282 d283 d284 d285 d286 d287 d288 d289 d290 d291 d292 d293 d294 d295 d296 d297 d298 d299 d300 d301 d302 d303 d304 d305 d306 d307 d308 d309 d310 d311 d312 d313 d314 d315 d316 d317 d318 d319 d320 d321 d322 d323 d324 d325 d326 d327 d328 d329 d330 d331 d332 d333 d334 d335 d336 d337 : Value)
    (hK : ∀ (a : Act) (w' : World), a.defers = [] → HP cf B xm tp (repF s saw orig act nm ind) w (.returned (.tuple #[])) w' → Q .ret a w') :
    Code.wp Tryd.prog (code52 [1, 1, 1, 1, 1, 1, 1, 1, 1, 1, 1, 1, 1, 1, 1, 1, 1, 1, 1, 1, 0, 1, 0]) Q ⟨#[.pointer (some ⟨cf.c, 0, none⟩), d1, d2, d3, .bool saw, d5, .slice (some ⟨b6, o6, none⟩) n6 c6, d7, .int .i64 (ind : Int), d9, d10, d11, d12, d13, .string (S nm), d15, .pointer (some ⟨g, 0, none⟩), d17, d18, d19, d20, d21, d22, d23, d24, d25, d26, d27, d28, d29, d30, d31, d32, d33, d34, d35, d36, d37, d38, d39, d40, d41, d42, d43, d44, d45, d46, d47, d48, d49, d50, d51, d52, d53, d54, d55, d56, d57, d58, d59, d60, d61, d62, d63, d64, d65, d66, d67, d68, d69, d70, d71, d72, d73, d74, d75, d76, d77, d78, d79, d80, d81, d82, d83, d84, d85, d86, d87, d88, d89, d90, d91, d92, d93, d94, d95, d96, d97, d98, d99, d100, d101, d102, d103, d104, d105, d106, d107, d108, d109, d110, d111, d112, d113, d114, d115, d116, d117, d118, d119, d120, d121, d122, d123, d124, d125, d126, d127, d128, d129, d130, d131, d132, d133, d134, d135, d136, d137, d138, d139, d140, d141, d142, d143, d144, d145, d146, d147, d148, d149, d150, d151, d152, d153, d154, d155, d156, d157, d158, d159, d160, d161, d162, d163, d164, d165, d166, d167, d168, d169, d170, d171, d172, d173, d174, d175, d176, d177, d178, d179, d180, d181, d182, d183, d184, d185, d186, d187, d188, d189, d190, d191, d192, d193, d194, d195, d196, d197, d198, d199, d200, d201, d202, d203, d204, d205, d206, d207, d208, d209, d210, d211, d212, d213, d214, d215, d216, d217, d218, d219, d220, d221, d222, d223, d224, d225, d226, d227, d228, d229, d230, d231, d232, d233, d234, d235, d236, d237, d238, d239, d240, d241, d242, d243, d244, d245, d246, d247, d248, d249, d250, d251, d252, d253, d254, d255, d256, d257, d258, d259, d260, d261, d262, d263, d264, d265, d266, d267, d268, d269, d270, d271, d272, d273, d274, d275, d276, d277, d278, d279, d280, d281, d282, d283, d284, d285, d286, d287, d288, d289, d290, d291, d292, d293, d294, d295, d296, d297, d298, d299, d300, d301, d302, d303, d304, d305, d306, d307, d308, d309, d310, d311, d312, d313, d314, d315, d316, d317, d318, d319, d320, d321, d322, d323, d324, d325, d326, d327, d328, d329, d330, d331, d332, d333, d334, d335, d336, d337], []⟩ w := by
  have HK := Lib.hid hK
  clear hK
  have HN6 := Lib.hid hn6
  have HSRC := Lib.hid hsrc
  have HH := Lib.hid (And.intro h (And.intro hb hg))
  have hidx := zzIndex_any nm [32, 40] w hnm (by decide) (by decide)
  obtain ⟨R, hR⟩ : ∃ R, R = idxF [32, 40] nm 0 := ⟨_, rfl⟩
  rw [← hR] at hidx
  have HI := Lib.hid hidx
  have hRl : ∀ i, R = some i → i ≤ nm.length := fun i hi => by rw [hR] at hi; have := idxF_le nm 0 i hi; omega
  have HU : Hid (repN nm = R.elim nm (fun i => nm.take i)) := by show _ = _; rw [hR]; unfold repN; cases idxF [32, 40] nm 0 <;> rfl
  have e1 : (S nm).size = nm.length := S_size nm
  clear h hb hg hsrc hn6 hidx hR
  cases R with
  | none =>
    simp only [optI] at HI
    have HE : Hid (repN nm = nm) := HU.out
    clear hRl
    refine wp_nop ?_
    conv => arg 2; whnf
    refine wp_seq_k ?_
    intro K hKK
    have HKK := Lib.hid hKK
    clear hKK
    go_wp2_with fail
    refine HI.out.mono ?_
    rintro en w1 ⟨rfl, rfl⟩
    go_wp2_with fail
    refine HKK.out _ _ ?_
    refine stH2 HH.out.1 HH.out.2.1 HH.out.2.2 HSRC.out HN6.out hc6 hbig hr hind _ _ _ _ _ _ _ _ _ _ _ _ _ _ _ _ _ _ _ _ _ _ _ _ _ _ _ _ _ _ _ _ _ _ _ _ _ _ _ _ _ _ _ _ _ _ _ _ _ _ _ _ _ _ _ _ _ _ _ _ _ _ _ _ _ _ _ _ _ _ _ _ _ _ _ _ _ _ _ _ _ _ _ _ _ _ _ _ _ _ _ _ _ _ _ _ _ _ _ _ _ _ _ _ _ _ _ _ _ _ _ _ _ _ _ _ _ _ _ _ _ _ _ _ _ _ _ _ _ _ _ _ _ _ _ _ _ _ _ _ _ _ _ _ _ _ _ _ _ _ _ _ _ _ _ _ _ _ _ _ _ _ _ _ _ _ _ _ _ _ _ _ _ _ _ _ _ _ _ _ _ _ _ _ _ _ _ _ _ _ _ _ _ _ _ _ _ _ _ _ _ _ _ _ _ _ _ _ _ _ _ _ _ _ _ _ _ _ _ _ _ _ _ _ _ _ _ _ _ _ _ _ _ _ _ _ _ _ _ _ _ _ _ _ _ _ _ _ _ _ _ _ _ _ _ _ _ _ _ _ _ _ _ _ _ _ _ _ _ _ _ _ _ _ _ _ _ _ _ _ _ _ _ _ _ _ _ _ _ _ _ _ _ _ _ _ _ _ _ _ _ _ _ _ _ _ _ _ _ _ _ _ _ _ _ _ _ _ _ _ _ _ _ _ _ _ _ _ _ _ _ _ _ ?_
    intro a w' ha hp
    refine HK.out a w' ha ?_
    unfold repF
    rw [HE.out]
    exact hp
  | some i =>
    simp only [optI] at HI
    have HE : Hid (repN nm = nm.take i) := HU.out
    have hi := hRl i rfl
    have b0 : (0 : Int) ≤ (i : Int) := by omega
    have x1 : (S nm).extract 0 i = S (nm.take i) := by rw [S_extract]; simp
    clear hRl
    refine wp_nop ?_
    conv => arg 2; whnf
    refine wp_seq_k ?_
    intro K hKK
    have HKK := Lib.hid hKK
    clear hKK
    go_wp2_with fail
    refine HI.out.mono ?_
    rintro en w1 ⟨rfl, rfl⟩
    go_wp2_with fail
    refine HKK.out _ _ ?_
    refine stH2 HH.out.1 HH.out.2.1 HH.out.2.2 HSRC.out HN6.out hc6 hbig hr hind _ _ _ _ _ _ _ _ _ _ _ _ _ _ _ _ _ _ _ _ _ _ _ _ _ _ _ _ _ _ _ _ _ _ _ _ _ _ _ _ _ _ _ _ _ _ _ _ _ _ _ _ _ _ _ _ _ _ _ _ _ _ _ _ _ _ _ _ _ _ _ _ _ _ _ _ _ _ _ _ _ _ _ _ _ _ _ _ _ _ _ _ _ _ _ _ _ _ _ _ _ _ _ _ _ _ _ _ _ _ _ _ _ _ _ _ _ _ _ _ _ _ _ _ _ _ _ _ _ _ _ _ _ _ _ _ _ _ _ _ _ _ _ _ _ _ _ _ _ _ _ _ _ _ _ _ _ _ _ _ _ _ _ _ _ _ _ _ _ _ _ _ _ _ _ _ _ _ _ _ _ _ _ _ _ _ _ _ _ _ _ _ _ _ _ _ _ _ _ _ _ _ _ _ _ _ _ _ _ _ _ _ _ _ _ _ _ _ _ _ _ _ _ _ _ _ _ _ _ _ _ _ _ _ _ _ _ _ _ _ _ _ _ _ _ _ _ _ _ _ _ _ _ _ _ _ _ _ _ _ _ _ _ _ _ _ _ _ _ _ _ _ _ _ _ _ _ _ _ _ _ _ _ _ _ _ _ _ _ _ _ _ _ _ _ _ _ _ _ _ _ _ _ _ _ _ _ _ _ _ _ _ _ _ _ _ _ _ _ _ _ _ _ _ _ _ _ _ _ _ _ _ _ ?_
    intro a w' ha hp
    refine HK.out a w' ha ?_
    unfold repF
    rw [HE.out]
    exact hp

end Go.Proofs.YtdljobmhnnegiaaDoor

/- handleInputLine: the action and the name. -/
namespace Go.Proofs.YtdljobmhnnegiaaDoor
open Go.RowKit

theorem trimLeftD_len : ∀ (k : Nat) (l : List UInt8), (Lib.trimLeftD k l).length ≤ l.length
  | 0, l => Nat.le_refl _
  | k + 1, l => by
    unfold Lib.trimLeftD
    split
    · simp
    · split
      · have := trimLeftD_len k (l.drop (Lib.decodeL l).2); rw [List.length_drop] at this; omega
      · exact Nat.le_refl _
theorem trimRightD_len : ∀ (k : Nat) (l : List UInt8), (Lib.trimRightD k l).length ≤ l.length
  | 0, l => Nat.le_refl _
  | k + 1, l => by
    unfold Lib.trimRightD
    split
    · simp
    · split
      · have := trimRightD_len k (l.take (l.length - (Lib.decodeLastL l).2)); rw [List.length_take] at this; omega
      · exact Nat.le_refl _
theorem trimSpaceD_len (l : List UInt8) : (Lib.trimSpaceD l).length ≤ l.length := Nat.le_trans (trimRightD_len _ _) (trimLeftD_len _ _)

set_option maxRecDepth 100000 in
set_option maxHeartbeats 40000000 in
theorem stG {cf : Cf} {B : Nat} {xm : List Nat} {tp : List (Nat × Obj)} {s : CS} {w : World} {b1 o1 n1 c1 b6 o6 n6 c6 ind : Nat} {saw : Bool} {line orig : List UInt8}
    (h : Core cf (B :: xm) tp s w) (hb : OB cf B s w) (hs1 : Src tp b1 o1 line) (hn1 : n1 = line.length) (hc1 : n1 ≤ c1) (h4 : 4 ≤ n1) (hsrc : Src tp b6 o6 orig) (hn6 : n6 = orig.length) (hc6 : n6 ≤ c6) (hbig : n6 ≤ 1000000) (hbig1 : n1 ≤ 1000000)
    (hr : pe s + s.report.length + 2 * n6 ≤ 9000000) (hind : ind ≤ 1000000) (hasc : ∀ b ∈ (cutF (line.drop 4) [32]).1, b.toNat < 128)
    (Q : Exit → Act → World → Prop) (d2 d3 d5 d7 d9 d10 d11 d12 d13 d14 d15 d16 d17 d18 d19 d20 d21 d22 d23 d24 d25 d26 d27 d28 d29 d30 d31 d32 d33 d34 d35 d36 d37 d38 d39 d40 d41 d42 d43 d44 d45 d46 d47 d48 d49 d50 d51 d52 d53 d54 d55 d56 d57 d58 d59 d60 d61 d62 d63 d64 d65 d66 d67 d68 d69 d70 d71 d72 d73 d74 d75 d76 d77 d78 d79 d80 d81 d82 d83 d84 d85 d86 d87 d88 d89 d90 d91 d92 d93 d94 d95 d96 d97 d98 d99 d100 d101 d102 d103 d104 d105 d106 d107 d108 d109 d110 d111 d112 d113 d114 d115 d116 d117 d118 d119 d120 d121 d122 d123 d124 d125 d126 d127 d128 d129 d130 d131 d132 d133 d134 d135 d136 d137 d138 d139 d140 d141 d142 d143 d144 d145 d146 d147 d148 d149 d150 d151 d152 d153 d154 d155 d156 d157 d158 d159 d160 d161 d162 d163 d164 d165 d166 d167 d168 d169 d170 d171 d172 d173 d174 d175 d176 d177 d178 d179 d180 d181 d182 d183 d184 d185 d186 d187 d188 d189 d190 d191 d192 d193 d194 d195 d196 d197 d198 d199 d200 d201 d202 d203 d204 d205 d206 d207 d208 d209 d210 d211 d212 d213 d214 d215 d216 d217 d218 d219 d220 d221 d222 d223 d224 d225 d226 d227 d228 d229 d230 d231 d232 d233 d234 d235 d236 d237 d238 d239 d240 d241 d242 d243 d244 d245 d246 d247 d248 d249 d250 d251 d252 d253 d254 d255 d256 d257 d258 d259 d260 d261 d262 d263 d264 d265 d266 d267 d268 d269 d270 d271 d272 d273 d274 d275 d276 d277 d278 d279 d280 d281 d282 d283 d284 d285 d286 d287 d288 d289 d290 d291 d292 d293 d294 d295 d296 d297 d298 d299 d300 d301 d302 d303 d304 d305 d306 d307 d308 d309 d310 d311 d312 d313 d314 d315 d316 d317 d318 d319 d320 d321 d322 d323 d324 d325 d326 d327 d328 d329 d330 d331 d332 d333 d334 d335 d336 d337 : Value)
    (hK : ∀ (a : Act) (w' : World), a.defers = [] → HP cf B xm tp (if line.getD 0 0 = 45 then repF s saw orig (actF line) (nameF line) ind else updF s saw orig (actF line) (nameF line)) w (.returned (.tuple #[])) w' → Q .ret a w') :
    Code.wp Tryd.prog (code52 [1, 1, 1, 1, 1, 1, 1, 1, 1, 1, 1, 1, 1, 1, 1]) Q ⟨#[.pointer (some ⟨cf.c, 0, none⟩), .slice (some ⟨b1, o1, none⟩) n1 c1, d2, d3, .bool saw, d5, .slice (some ⟨b6, o6, none⟩) n6 c6, d7, .int .i64 (ind : Int), d9, d10, d11, d12, d13, d14, d15, d16, d17, d18, d19, d20, d21, d22, d23, d24, d25, d26, d27, d28, d29, d30, d31, d32, d33, d34, d35, d36, d37, d38, d39, d40, d41, d42, d43, d44, d45, d46, d47, d48, d49, d50, d51, d52, d53, d54, d55, d56, d57, d58, d59, d60, d61, d62, d63, d64, d65, d66, d67, d68, d69, d70, d71, d72, d73, d74, d75, d76, d77, d78, d79, d80, d81, d82, d83, d84, d85, d86, d87, d88, d89, d90, d91, d92, d93, d94, d95, d96, d97, d98, d99, d100, d101, d102, d103, d104, d105, d106, d107, d108, d109, d110, d111, d112, d113, d114, d115, d116, d117, d118, d119, d120, d121, d122, d123, d124, d125, d126, d127, d128, d129, d130, d131, d132, d133, d134, d135, d136, d137, d138, d139, d140, d141, d142, d143, d144, d145, d146, d147, d148, d149, d150, d151, d152, d153, d154, d155, d156, d157, d158, d159, d160, d161, d162, d163, d164, d165, d166, d167, d168, d169, d170, d171, d172, d173, d174, d175, d176, d177, d178, d179, d180, d181, d182, d183, d184, d185, d186, d187, d188, d189, d190, d191, d192, d193, d194, d195, d196, d197, d198, d199, d200, d201, d202, d203, d204, d205, d206, d207, d208, d209, d210, d211, d212, d213, d214, d215, d216, d217, d218, d219, d220, d221, d222, d223, d224, d225, d226, d227, d228, d229, d230, d231, d232, d233, d234, d235, d236, d237, d238, d239, d240, d241, d242, d243, d244, d245, d246, d247, d248, d249, d250, d251, d252, d253, d254, d255, d256, d257, d258, d259, d260, d261, d262, d263, d264, d265, d266, d267, d268, d269, d270, d271, d272, d273, d274, d275, d276, d277, d278, d279, d280, d281, d282, d283, d284, d285, d286, d287, d288, d289, d290, d291, d292, d293, d294, d295, d296, d297, d298, d299, d300, d301, d302, d303, d304, d305, d306, d307, d308, d309, d310, d311, d312, d313, d314, d315, d316, d317, d318, d319, d320, d321, d322, d323, d324, d325, d326, d327, d328, d329, d330, d331, d332, d333, d334, d335, d336, d337], []⟩ w := by
  have HK := Lib.hid hK
  clear hK
  have HSRC := Lib.hid hsrc
  have HN6 := Lib.hid hn6
  have HN1 := Lib.hid hn1
  have HH := Lib.hid (And.intro h hb)
  have HS1 := Lib.hid hs1
  obtain ⟨AO, hAO⟩ : ∃ AO, AO = if c1 = 4 then o1 else o1 + 4 := ⟨_, rfl⟩
  have hsl : ∀ w', (Instr.slice 23 (.slice (some ⟨b1, o1, none⟩) n1 c1) (some (.int .i64 4)) none none).run Tryd.prog w' = .ok (.slice (some ⟨b1, AO, none⟩) (n1 - 4) (c1 - 4)) w' := fun w' => by
    rw [hAO]; exact slice_from w' b1 o1 n1 c1 4 h4 hc1
  have hrd : Rd w b1 AO (line.drop 4) := by
    have h1 := hs1 w (fun p hp => h.tpb hp)
    by_cases e : c1 = 4
    · have : line.drop 4 = [] := List.drop_eq_nil_of_le (by omega)
      rw [this]; exact Rd.nil _ _ _
    · rw [hAO, if_neg e]; exact h1.drop 4
  have hcv := conv_str hrd (n1 - 4) (c1 - 4) (by rw [List.length_drop]; omega)
  have hdl : (line.drop 4).length ≤ 1000000 := by rw [List.length_drop]; omega
  have hcut := zzCut_any (line.drop 4) [32] w hdl (by decide) (by decide)
  have hcl := cutF_len (line.drop 4) [32]
  have HA : Hid (actF line = lowF (Lib.trimSuffix (cutF (line.drop 4) [32]).1 [58])) := rfl
  have HM : Hid (nameF line = Lib.trimSpaceD (cutF (line.drop 4) [32]).2) := rfl
  obtain ⟨C, hC⟩ : ∃ C, C = cutF (line.drop 4) [32] := ⟨_, rfl⟩
  unfold CutPost at hcut
  rw [← hC] at hcut hcl hasc HA HM
  obtain ⟨a0, r0⟩ := C
  dsimp only at hcut hcl hasc HA HM
  have HCUT := Lib.hid hcut
  obtain ⟨a1, ha1⟩ : ∃ a1, a1 = Lib.trimSuffix a0 [58] := ⟨_, rfl⟩
  have hsuf : ∀ wx, Calls Tryd.prog 68 #[.string (S a0), .string ⟨#[58]⟩] wx fun e w' => e = .returned (.string (S a1)) ∧ w' = wx := fun wx => by
    have := Tryd.strings_TrimSuffix (S a0) (S [58]) wx (by rw [S_size]; omega)
    rw [S_toList, S_toList, ← ha1] at this
    exact this
  have hsub : a1.length ≤ a0.length ∧ ∀ b ∈ a1, b ∈ a0 := by
    rw [ha1]
    unfold Lib.trimSuffix
    split
    · exact ⟨by rw [List.length_take]; omega, fun b hb => List.mem_of_mem_take hb⟩
    · exact ⟨Nat.le_refl _, fun b hb => hb⟩
  obtain ⟨a2, ha2⟩ : ∃ a2, a2 = lowF a1 := ⟨_, rfl⟩
  have hlow : ∀ wx, Calls Tryd.prog 69 #[.string (S a1)] wx fun e w' => e = .returned (.string (S a2)) ∧ Below wx.heap.size wx w' := fun wx => by
    have := Tryd.strings_ToLower_ascii (S a1) wx (by rw [S_size]; omega) (fun j b hj => hasc b (hsub.2 b (List.mem_of_getElem? hj)))
    rw [S_toList] at this
    unfold lowF at ha2
    rw [← ha2] at this
    exact this
  obtain ⟨nm, hnm⟩ : ∃ nm, nm = Lib.trimSpaceD r0 := ⟨_, rfl⟩
  have htrim : ∀ wx, G5 wx → Calls Tryd.prog 70 #[.string (S r0)] wx fun e w' => e = .returned (.string (S nm)) ∧ Below wx.heap.size wx w' := fun wx hg => by
    have := Tryd.strings_TrimSpace_any (S r0) wx (by rw [S_size]; omega) hg.ascii hg.g4.u8 hg.white
    rw [S_toList, ← hnm] at this
    exact this
  have hnml : nm.length ≤ 1000000 := by
    have := trimSpaceD_len r0
    rw [hnm]; omega
  have HSUF := Lib.hid hsuf
  have HLOW := Lib.hid hlow
  have HTRIM := Lib.hid htrim
  have HA2 : Hid (actF line = a2) := by show _ = _; rw [HA.out, ha2, ha1]
  have HNM : Hid (nameF line = nm) := by show _ = _; rw [HM.out, hnm]
  obtain ⟨m, hm⟩ : ∃ m, m = (line.getD 0 0).toNat := ⟨_, rfl⟩
  have HL0 : Hid (∀ w' : World, (∀ p ∈ tp, w'.heap[p.1]? = some p.2) → w'.cell? ⟨b1, o1, none⟩ = some (.int .u8 m)) := fun w' hw => by
    have := hs1 w' hw 0 (by omega)
    rw [← hm] at this
    exact this
  have HMM : Hid (line.getD 0 0 = 45 ↔ m = 45) := by rw [hm]; exact UInt8.toNat_inj.symm
  clear h hb hs1 hn1 hsrc hn6 hAO hrd hdl hcut hcl HA HM hC ha1 hsuf hsub ha2 hlow hnm htrim hm hasc
  refine wp_nop ?_
  conv => arg 2; whnf
  go_wp2_with fail
  refine HCUT.out.mono ?_
  rintro en w1 ⟨bb, rfl, hb1⟩
  have HB1 := Lib.hid hb1
  clear hb1 hcv hsl
  go_wp2_with fail
  refine (HSUF.out _).mono ?_
  rintro en w' ⟨rfl, rfl⟩
  go_wp2_with fail
  refine (HLOW.out _).mono ?_
  rintro en w2 ⟨rfl, hb2⟩
  have HB2 := Lib.hid hb2
  clear hb2
  go_wp2_with fail
  have hbel2 := HB1.out.trans (HB2.out.mono HB1.out.size)
  refine (HTRIM.out _ (HH.out.1.g.below hbel2)).mono ?_
  rintro en w3 ⟨rfl, hb3⟩
  have hbel3 := hbel2.trans (hb3.mono hbel2.size)
  have hC3 := HH.out.1.below hbel3
  have hC4 := hC3.new (evBlk (Ev.of a2 []) ⟨#[]⟩ (.slice none 0 0))
  have HW : Hid (Core cf (w3.heap.size :: B :: xm) tp s (w3.alloc (evBlk (Ev.of a2 []) ⟨#[]⟩ (.slice none 0 0))) ∧ OB cf B s (w3.alloc (evBlk (Ev.of a2 []) ⟨#[]⟩ (.slice none 0 0))) ∧ (w3.alloc (evBlk (Ev.of a2 []) ⟨#[]⟩ (.slice none 0 0))).heap[w3.heap.size]? = some (evBlk (Ev.of a2 []) ⟨#[]⟩ (.slice none 0 0)) ∧ Same610 cf.c w (w3.alloc (evBlk (Ev.of a2 []) ⟨#[]⟩ (.slice none 0 0)))) := by
    have hbel4 := hbel3.alloc hbel3.size (evBlk (Ev.of a2 []) ⟨#[]⟩ (.slice none 0 0))
    exact ⟨hC4, ⟨HH.out.2.1.below hbel4, HH.out.2.2⟩, heap_alloc_new _ _, (Same615.block (hbel4.block _ HH.out.1.lt0.2)).i⟩
  have hl0 : (w3.alloc (evBlk (Ev.of a2 []) ⟨#[]⟩ (.slice none 0 0))).cell? ⟨b1, o1, none⟩ = some (.int .u8 m) := HL0.out _ (fun p hp => hC4.tpb hp)
  obtain ⟨w4, hw4⟩ : ∃ w4, w4 = w3.alloc (evBlk (Ev.of a2 []) ⟨#[]⟩ (.slice none 0 0)) := ⟨_, rfl⟩
  rw [← hw4] at HW hl0
  have HW4 : Hid (w3.alloc (.cells #[.string (S a2), .string ⟨#[]⟩, .string ⟨#[]⟩, .slice none 0 0, .string ⟨#[]⟩, .string ⟨#[]⟩, .string ⟨#[]⟩, .string ⟨#[]⟩, .string ⟨#[]⟩] 71) = w4) := by rw [hw4]; rfl
  clear hbel2 hbel3 hb3 hC3 hC4 hw4
  go_upto_region 54 with fail
  rw [HW4.out]
  have b0 : (0 : Int) < (n1 : Int) := by omega
  by_cases c45 : m = 45
  · have t45 : ((m : Int) == 45) = true := by simp; omega
    have HX : Hid (line.getD 0 0 = 45) := HMM.out.2 c45
    clear c45
    go_upto_if 233 with fail
    refine wp_cond_true rfl ?_
    refine stH HW.out.1 HW.out.2.1 HW.out.2.2.1 HSRC.out HN6.out hc6 hbig hr hnml hind _ _ _ _ _ _ _ _ _ _ _ _ _ _ _ _ _ _ _ _ _ _ _ _ _ _ _ _ _ _ _ _ _ _ _ _ _ _ _ _ _ _ _ _ _ _ _ _ _ _ _ _ _ _ _ _ _ _ _ _ _ _ _ _ _ _ _ _ _ _ _ _ _ _ _ _ _ _ _ _ _ _ _ _ _ _ _ _ _ _ _ _ _ _ _ _ _ _ _ _ _ _ _ _ _ _ _ _ _ _ _ _ _ _ _ _ _ _ _ _ _ _ _ _ _ _ _ _ _ _ _ _ _ _ _ _ _ _ _ _ _ _ _ _ _ _ _ _ _ _ _ _ _ _ _ _ _ _ _ _ _ _ _ _ _ _ _ _ _ _ _ _ _ _ _ _ _ _ _ _ _ _ _ _ _ _ _ _ _ _ _ _ _ _ _ _ _ _ _ _ _ _ _ _ _ _ _ _ _ _ _ _ _ _ _ _ _ _ _ _ _ _ _ _ _ _ _ _ _ _ _ _ _ _ _ _ _ _ _ _ _ _ _ _ _ _ _ _ _ _ _ _ _ _ _ _ _ _ _ _ _ _ _ _ _ _ _ _ _ _ _ _ _ _ _ _ _ _ _ _ _ _ _ _ _ _ _ _ _ _ _ _ _ _ _ _ _ _ _ _ _ _ _ _ _ _ _ _ _ _ _ _ _ _ _ _ _ _ _ _ _ _ _ _ _ _ _ _ _ _ _ _ _ ?_
    intro a w' ha hp
    refine HK.out a w' ha ?_
    rw [if_pos HX.out, HA2.out, HNM.out]
    exact ⟨hp.1, hp.2.1, HW.out.2.2.2.trans hp.2.2.1, hp.2.2.2⟩
  · have t45 : ((m : Int) == 45) = false := by simp; omega
    have HX : Hid (¬ line.getD 0 0 = 45) := fun e => c45 (HMM.out.1 e)
    clear c45
    go_upto_if 233 with fail
    refine wp_cond_false rfl ?_
    go_step
    go_step
    go_step
    refine stI HW.out.1 HW.out.2.1 HW.out.2.2.1 HSRC.out HN6.out hc6 hbig hr hnml _ _ _ _ _ _ _ _ _ _ _ _ _ _ _ _ _ _ _ _ _ _ _ _ _ _ _ _ _ _ _ _ _ _ _ _ _ _ _ _ _ _ _ _ _ _ _ _ _ _ _ _ _ _ _ _ _ _ _ _ _ _ _ _ _ _ _ _ _ _ _ _ _ _ _ _ _ _ _ _ _ _ _ _ _ _ _ _ _ _ _ _ _ _ _ _ _ _ _ _ _ _ _ _ _ _ _ _ _ _ _ _ _ _ _ _ _ _ _ _ _ _ _ _ _ _ _ _ _ _ _ _ _ _ _ _ _ _ _ _ _ _ _ _ _ _ _ _ _ _ _ _ _ _ _ _ _ _ _ _ _ _ _ _ _ _ _ _ _ _ _ _ _ _ _ _ _ _ _ _ _ _ _ _ _ _ _ _ _ _ _ _ _ _ _ _ _ _ _ _ _ _ _ _ _ _ _ _ _ _ _ _ _ _ _ _ _ _ _ _ _ _ _ _ _ _ _ _ _ _ _ _ _ _ _ _ _ _ _ _ _ _ _ _ _ _ _ _ _ _ _ _ _ _ _ _ _ _ _ _ _ _ _ _ _ _ _ _ _ _ _ _ _ _ _ _ _ _ _ _ _ _ _ _ _ _ _ _ _ _ _ _ _ _ _ _ _ _ _ _ _ _ _ _ _ _ _ _ _ _ _ _ _ _ _ _ _ _ _ _ _ _ _ _ _ _ _ _ _ _ _ _ _ ?_
    intro a w' ha hp
    refine HK.out a w' ha ?_
    rw [if_neg HX.out, HA2.out, HNM.out]
    exact ⟨hp.1, hp.2.1, HW.out.2.2.2.trans hp.2.2.1, hp.2.2.2⟩

end Go.Proofs.YtdljobmhnnegiaaDoor

/- handleInputLine: a line that tells something, and one that does not. -/
namespace Go.Proofs.YtdljobmhnnegiaaDoor
open Go.RowKit

/-- A pending report's test, in memory. -/
theorem Core.repAt {cf : Cf} {xm : List Nat} {tp : List (Nat × Obj)} {s : CS} {w : World} (h : Core cf xm tp s w) {k : Nat} (hk : k < s.report.length) : ∃ q cap g, w.cell? ⟨cf.c, 4, none⟩ = some (.slice (some ⟨q, 0, none⟩) s.report.length cap) ∧ w.cell? ⟨q, k, none⟩ = some (.pointer (some ⟨g, 0, none⟩)) ∧
    w.cell? ⟨g, 2, none⟩ = some (.string (S (s.report[k]).2)) ∧ True := by
  obtain ⟨ρ, rv, gs, ev, xs, kp, r⟩ := h.rows
  have hrow := r.rrow
  obtain ⟨q, cap, hv⟩ : ∃ q cap, rv = .slice (some ⟨q, 0, none⟩) s.report.length cap := by
    rcases hrow.2 with ⟨_, h0⟩ | ⟨q, cap, cur, h1, _⟩
    · omega
    · exact ⟨q, cap, h1⟩
  have hkg : k < gs.length := by rw [r.rlen]; exact hk
  have hz : (gs[k], s.report[k]) ∈ gs.zip s.report := by
    have : (gs.zip s.report)[k]? = some (gs[k], s.report[k]) := by simp [List.getElem?_zip_eq_some, List.getElem?_eq_getElem hkg, List.getElem?_eq_getElem hk]
    exact List.mem_of_getElem? this
  have hb := r.rblk _ hz
  have hc := hrow.cells (show rv.ownBlock = some q by rw [hv]; rfl) k (.pointer (some ⟨gs[k], 0, none⟩)) (by simp [ptrs, List.getElem?_eq_getElem hkg])
  rw [addr_add] at hc
  exact ⟨q, cap, gs[k], by rw [r.rcell, hv], hc, by simp only [World.cell?, hb, repBlk]; rfl, trivial⟩

set_option maxRecDepth 100000 in
set_option maxHeartbeats 40000000 in
theorem stFy {cf : Cf} {B : Nat} {xm : List Nat} {tp : List (Nat × Obj)} {s : CS} {w : World} {b1 o1 n1 c1 b6 o6 n6 c6 ind : Nat} {saw : Bool} {line orig : List UInt8}
    (h : Core cf (B :: xm) tp s w) (hb : OB cf B s w) (hs1 : Src tp b1 o1 line) (hn1 : n1 = line.length) (hc1 : n1 ≤ c1) (h4 : 4 ≤ n1) (hsrc : Src tp b6 o6 orig) (hn6 : n6 = orig.length) (hc6 : n6 ≤ c6) (hbig : n6 ≤ 1000000) (hbig1 : n1 ≤ 1000000)
    (hr : pe s + s.report.length + 2 * n6 ≤ 9000000) (hind : ind ≤ 1000000) (hasc : ∀ b ∈ (cutF (line.drop 4) [32]).1, b.toNat < 128)
    (Q : Exit → Act → World → Prop) (d2 d3 d5 d9 d10 d11 d12 d13 d14 d15 d16 d17 d18 d19 d20 d21 d22 d23 d24 d25 d26 d27 d28 d29 d30 d31 d32 d33 d34 d35 d36 d37 d38 d39 d40 d41 d42 d43 d44 d45 d46 d47 d48 d49 d50 d51 d52 d53 d54 d55 d56 d57 d58 d59 d60 d61 d62 d63 d64 d65 d66 d67 d68 d69 d70 d71 d72 d73 d74 d75 d76 d77 d78 d79 d80 d81 d82 d83 d84 d85 d86 d87 d88 d89 d90 d91 d92 d93 d94 d95 d96 d97 d98 d99 d100 d101 d102 d103 d104 d105 d106 d107 d108 d109 d110 d111 d112 d113 d114 d115 d116 d117 d118 d119 d120 d121 d122 d123 d124 d125 d126 d127 d128 d129 d130 d131 d132 d133 d134 d135 d136 d137 d138 d139 d140 d141 d142 d143 d144 d145 d146 d147 d148 d149 d150 d151 d152 d153 d154 d155 d156 d157 d158 d159 d160 d161 d162 d163 d164 d165 d166 d167 d168 d169 d170 d171 d172 d173 d174 d175 d176 d177 d178 d179 d180 d181 d182 d183 d184 d185 d186 d187 d188 d189 d190 d191 d192 d193 d194 d195 d196 d197 d198 d199 d200 d201 d202 d203 d204 d205 d206 d207 d208 d209 d210 d211 d212 d213 d214 d215 d216 d217 d218 d219 d220 d221 d222 d223 d224 d225 d226 d227 d228 d229 d230 d231 d232 d233 d234 d235 d236 d237 d238 d239 d240 d241 d242 d243 d244 d245 d246 d247 d248 d249 d250 d251 d252 d253 d254 d255 d256 d257 d258 d259 d260 d261 d262 d263 d264 d265 d266 d267 d268 d269 d270 d271 d272 d273 d274 d275 d276 d277 d278 d279 d280 d281 d282 d283 d284 d285 d286 d287 d288 d289 d290 d291 d292 d293 d294 d295 d296 d297 d298 d299 d300 d301 d302 d303 d304 d305 d306 d307 d308 d309 d310 d311 d312 d313 d314 d315 d316 d317 d318 d319 d320 d321 d322 d323 d324 d325 d326 d327 d328 d329 d330 d331 d332 d333 d334 d335 d336 d337 : Value)
    (hK : ∀ (a : Act) (w' : World), a.defers = [] → HP cf B xm tp (if line.getD 0 0 = 45 then repF s saw orig (actF line) (nameF line) ind else updF s saw orig (actF line) (nameF line)) w (.returned (.tuple #[])) w' → Q .ret a w') :
    Code.wp Tryd.prog (code52 [1, 1, 1, 1, 1, 1, 1, 1, 1, 1, 1, 1, 1, 1]) Q ⟨#[.pointer (some ⟨cf.c, 0, none⟩), .slice (some ⟨b1, o1, none⟩) n1 c1, d2, d3, .bool saw, d5, .slice (some ⟨b6, o6, none⟩) n6 c6, .bool true, .int .i64 (ind : Int), d9, d10, d11, d12, d13, d14, d15, d16, d17, d18, d19, d20, d21, d22, d23, d24, d25, d26, d27, d28, d29, d30, d31, d32, d33, d34, d35, d36, d37, d38, d39, d40, d41, d42, d43, d44, d45, d46, d47, d48, d49, d50, d51, d52, d53, d54, d55, d56, d57, d58, d59, d60, d61, d62, d63, d64, d65, d66, d67, d68, d69, d70, d71, d72, d73, d74, d75, d76, d77, d78, d79, d80, d81, d82, d83, d84, d85, d86, d87, d88, d89, d90, d91, d92, d93, d94, d95, d96, d97, d98, d99, d100, d101, d102, d103, d104, d105, d106, d107, d108, d109, d110, d111, d112, d113, d114, d115, d116, d117, d118, d119, d120, d121, d122, d123, d124, d125, d126, d127, d128, d129, d130, d131, d132, d133, d134, d135, d136, d137, d138, d139, d140, d141, d142, d143, d144, d145, d146, d147, d148, d149, d150, d151, d152, d153, d154, d155, d156, d157, d158, d159, d160, d161, d162, d163, d164, d165, d166, d167, d168, d169, d170, d171, d172, d173, d174, d175, d176, d177, d178, d179, d180, d181, d182, d183, d184, d185, d186, d187, d188, d189, d190, d191, d192, d193, d194, d195, d196, d197, d198, d199, d200, d201, d202, d203, d204, d205, d206, d207, d208, d209, d210, d211, d212, d213, d214, d215, d216, d217, d218, d219, d220, d221, d222, d223, d224, d225, d226, d227, d228, d229, d230, d231, d232, d233, d234, d235, d236, d237, d238, d239, d240, d241, d242, d243, d244, d245, d246, d247, d248, d249, d250, d251, d252, d253, d254, d255, d256, d257, d258, d259, d260, d261, d262, d263, d264, d265, d266, d267, d268, d269, d270, d271, d272, d273, d274, d275, d276, d277, d278, d279, d280, d281, d282, d283, d284, d285, d286, d287, d288, d289, d290, d291, d292, d293, d294, d295, d296, d297, d298, d299, d300, d301, d302, d303, d304, d305, d306, d307, d308, d309, d310, d311, d312, d313, d314, d315, d316, d317, d318, d319, d320, d321, d322, d323, d324, d325, d326, d327, d328, d329, d330, d331, d332, d333, d334, d335, d336, d337], []⟩ w := by
  have HK := Lib.hid hK
  clear hK
  have HX := Lib.hid (fun Q => @stG cf B xm tp s w b1 o1 n1 c1 b6 o6 n6 c6 ind saw line orig h hb hs1 hn1 hc1 h4 hsrc hn6 hc6 hbig hbig1 hr hind hasc Q)
  clear h hb hs1 hn1 hc1 h4 hsrc hn6 hc6 hbig hbig1 hr hind hasc
  refine wp_nop ?_
  conv => arg 2; whnf
  refine wp_seq_k ?_
  intro K hKK
  have HKK := Lib.hid hKK
  clear hKK
  go_wp2_with fail
  refine HKK.out _ _ ?_
  exact HX.out _ _ _ _ _ _ _ _ _ _ _ _ _ _ _ _ _ _ _ _ _ _ _ _ _ _ _ _ _ _ _ _ _ _ _ _ _ _ _ _ _ _ _ _ _ _ _ _ _ _ _ _ _ _ _ _ _ _ _ _ _ _ _ _ _ _ _ _ _ _ _ _ _ _ _ _ _ _ _ _ _ _ _ _ _ _ _ _ _ _ _ _ _ _ _ _ _ _ _ _ _ _ _ _ _ _ _ _ _ _ _ _ _ _ _ _ _ _ _ _ _ _ _ _ _ _ _ _ _ _ _ _ _ _ _ _ _ _ _ _ _ _ _ _ _ _ _ _ _ _ _ _ _ _ _ _ _ _ _ _ _ _ _ _ _ _ _ _ _ _ _ _ _ _ _ _ _ _ _ _ _ _ _ _ _ _ _ _ _ _ _ _ _ _ _ _ _ _ _ _ _ _ _ _ _ _ _ _ _ _ _ _ _ _ _ _ _ _ _ _ _ _ _ _ _ _ _ _ _ _ _ _ _ _ _ _ _ _ _ _ _ _ _ _ _ _ _ _ _ _ _ _ _ _ _ _ _ _ _ _ _ _ _ _ _ _ _ _ _ _ _ _ _ _ _ _ _ _ _ _ _ _ _ _ _ _ _ _ _ _ _ _ _ _ _ _ _ _ _ _ _ _ _ _ _ _ _ _ _ _ _ _ _ _ _ _ _ _ _ _ _ _ _ _ _ _ _ _ _ _ _ _ _ _ (fun a w' ha hp => HK.out a w' ha hp)

set_option maxRecDepth 100000 in
set_option maxHeartbeats 40000000 in
theorem stFn {cf : Cf} {B : Nat} {xm : List Nat} {tp : List (Nat × Obj)} {s : CS} {w : World} {b6 o6 n6 c6 ind : Nat} {v1 v4 : Value} {orig : List UInt8}
    (h : Core cf (B :: xm) tp s w) (hb : OB cf B s w) (hsrc : Src tp b6 o6 orig) (hn6 : n6 = orig.length) (hc6 : n6 ≤ c6) (hbig : n6 ≤ 1000000)
    (hr : pe s + s.report.length + 2 * n6 ≤ 9000000) (hind : ind ≤ 1000000)
    (Q : Exit → Act → World → Prop) (d2 d3 d5 d9 d10 d11 d12 d13 d14 d15 d16 d17 d18 d19 d20 d21 d22 d23 d24 d25 d26 d27 d28 d29 d30 d31 d32 d33 d34 d35 d36 d37 d38 d39 d40 d41 d42 d43 d44 d45 d46 d47 d48 d49 d50 d51 d52 d53 d54 d55 d56 d57 d58 d59 d60 d61 d62 d63 d64 d65 d66 d67 d68 d69 d70 d71 d72 d73 d74 d75 d76 d77 d78 d79 d80 d81 d82 d83 d84 d85 d86 d87 d88 d89 d90 d91 d92 d93 d94 d95 d96 d97 d98 d99 d100 d101 d102 d103 d104 d105 d106 d107 d108 d109 d110 d111 d112 d113 d114 d115 d116 d117 d118 d119 d120 d121 d122 d123 d124 d125 d126 d127 d128 d129 d130 d131 d132 d133 d134 d135 d136 d137 d138 d139 d140 d141 d142 d143 d144 d145 d146 d147 d148 d149 d150 d151 d152 d153 d154 d155 d156 d157 d158 d159 d160 d161 d162 d163 d164 d165 d166 d167 d168 d169 d170 d171 d172 d173 d174 d175 d176 d177 d178 d179 d180 d181 d182 d183 d184 d185 d186 d187 d188 d189 d190 d191 d192 d193 d194 d195 d196 d197 d198 d199 d200 d201 d202 d203 d204 d205 d206 d207 d208 d209 d210 d211 d212 d213 d214 d215 d216 d217 d218 d219 d220 d221 d222 d223 d224 d225 d226 d227 d228 d229 d230 d231 d232 d233 d234 d235 d236 d237 d238 d239 d240 d241 d242 d243 d244 d245 d246 d247 d248 d249 d250 d251 d252 d253 d254 d255 d256 d257 d258 d259 d260 d261 d262 d263 d264 d265 d266 d267 d268 d269 d270 d271 d272 d273 d274 d275 d276 d277 d278 d279 d280 d281 d282 d283 d284 d285 d286 d287 d288 d289 d290 d291 d292 d293 d294 d295 d296 d297 d298 d299 d300 d301 d302 d303 d304 d305 d306 d307 d308 d309 d310 d311 d312 d313 d314 d315 d316 d317 d318 d319 d320 d321 d322 d323 d324 d325 d326 d327 d328 d329 d330 d331 d332 d333 d334 d335 d336 d337 : Value)
    (hK : ∀ (a : Act) (w' : World), a.defers = [] → HP cf B xm tp (outW (nameAt s ind) orig) w (.returned (.tuple #[])) w' → Q .ret a w') :
    Code.wp Tryd.prog (code52 [1, 1, 1, 1, 1, 1, 1, 1, 1, 1, 1, 1, 1, 1]) Q ⟨#[.pointer (some ⟨cf.c, 0, none⟩), v1, d2, d3, v4, d5, .slice (some ⟨b6, o6, none⟩) n6 c6, .bool false, .int .i64 (ind : Int), d9, d10, d11, d12, d13, d14, d15, d16, d17, d18, d19, d20, d21, d22, d23, d24, d25, d26, d27, d28, d29, d30, d31, d32, d33, d34, d35, d36, d37, d38, d39, d40, d41, d42, d43, d44, d45, d46, d47, d48, d49, d50, d51, d52, d53, d54, d55, d56, d57, d58, d59, d60, d61, d62, d63, d64, d65, d66, d67, d68, d69, d70, d71, d72, d73, d74, d75, d76, d77, d78, d79, d80, d81, d82, d83, d84, d85, d86, d87, d88, d89, d90, d91, d92, d93, d94, d95, d96, d97, d98, d99, d100, d101, d102, d103, d104, d105, d106, d107, d108, d109, d110, d111, d112, d113, d114, d115, d116, d117, d118, d119, d120, d121, d122, d123, d124, d125, d126, d127, d128, d129, d130, d131, d132, d133, d134, d135, d136, d137, d138, d139, d140, d141, d142, d143, d144, d145, d146, d147, d148, d149, d150, d151, d152, d153, d154, d155, d156, d157, d158, d159, d160, d161, d162, d163, d164, d165, d166, d167, d168, d169, d170, d171, d172, d173, d174, d175, d176, d177, d178, d179, d180, d181, d182, d183, d184, d185, d186, d187, d188, d189, d190, d191, d192, d193, d194, d195, d196, d197, d198, d199, d200, d201, d202, d203, d204, d205, d206, d207, d208, d209, d210, d211, d212, d213, d214, d215, d216, d217, d218, d219, d220, d221, d222, d223, d224, d225, d226, d227, d228, d229, d230, d231, d232, d233, d234, d235, d236, d237, d238, d239, d240, d241, d242, d243, d244, d245, d246, d247, d248, d249, d250, d251, d252, d253, d254, d255, d256, d257, d258, d259, d260, d261, d262, d263, d264, d265, d266, d267, d268, d269, d270, d271, d272, d273, d274, d275, d276, d277, d278, d279, d280, d281, d282, d283, d284, d285, d286, d287, d288, d289, d290, d291, d292, d293, d294, d295, d296, d297, d298, d299, d300, d301, d302, d303, d304, d305, d306, d307, d308, d309, d310, d311, d312, d313, d314, d315, d316, d317, d318, d319, d320, d321, d322, d323, d324, d325, d326, d327, d328, d329, d330, d331, d332, d333, d334, d335, d336, d337], []⟩ w := by
  have HK := Lib.hid hK
  clear hK
  have hrl := h.rep_len
  obtain ⟨a4, cap4, c4⟩ := hrl
  obtain ⟨rl, hrl⟩ : ∃ rl, rl = s.report.length := ⟨_, rfl⟩
  rw [← hrl] at c4
  have HRL := Lib.hid hrl
  have hrl9 : rl ≤ 9000000 := by unfold pe at hr; omega
  have hprev : Hid (pe s ≤ 9000000) := by show _ ≤ _; omega
  have HSRC := Lib.hid hsrc
  have HN6 := Lib.hid hn6
  -- the end: the line is written as it is
  have HEND : Hid (∀ (s' : CS) (w1 : World), s' = nameAt s ind → Core cf (B :: xm) tp s' w1 → OB cf B s' w1 → pe s' = pe s → Same610 cf.c w w1 →
      Calls Tryd.prog 50 #[.pointer (some ⟨cf.c, 11, none⟩), .slice (some ⟨b6, o6, none⟩) n6 c6] w1 fun en w' => en = .returned (.tuple #[]) ∧ HP cf B xm tp (outW (nameAt s ind) orig) w (.returned (.tuple #[])) w') := fun s' w1 e1 a1 a2 a3 a4 =>
    (outW_any a1 a2 HSRC.out n6 c6 HN6.out hc6 (by omega) (by rw [a3]; have := hprev.out; omega)).mono fun en w' hp => ⟨hp.1, by rw [← e1]; exact ⟨rfl, hp.2.1, a4.trans hp.2.2.1, hp.2.2.2.1⟩⟩
  have HH := Lib.hid (And.intro h hb)
  cases ind with
  | zero =>
    have HE := Lib.hid (HEND.out s w rfl h hb rfl (Same610.refl _ _))
    clear h hb hsrc hn6 hr hrl HEND
    refine wp_nop ?_
    conv => arg 2; whnf
    go_wp2_with fail
    refine HE.out.mono ?_
    rintro en w1 ⟨rfl, hp⟩
    have H3 := Lib.hid hp
    clear hp
    go_wp2_with fail
    exact HK.out _ _ rfl H3.out
  | succ k =>
    by_cases hk : k < rl
    · have hk' : k < s.report.length := by omega
      obtain ⟨q, cap, gk, d4, hq, hgk, hgf⟩ := h.repAt hk'
      rw [← hrl] at d4
      have hset := h.setName (s.report[k]).2
      have HE := Lib.hid (HEND.out { s with name := (s.report[k]).2 } _ (by unfold nameAt; simp [List.getElem?_eq_getElem hk']) hset.1 (hb.same hset.2 hset.1.fr (Below.heap_setCell _ _ _ _ hb.1.ne) rfl) rfl hset.2.i)
      have c3 := h.cells 3 _ rfl
      have f3 := h.fr 3
      have b0 : (0 : Int) ≤ (k : Int) := by omega
      have b1 : (k : Int) < (rl : Int) := by omega
      have b2 : ((k : Int) + 1) ≤ (rl : Int) := by omega
      obtain ⟨nn, hnn⟩ : ∃ nn, nn = S (s.report[k]).2 := ⟨_, rfl⟩
      rw [← hnn] at hgk HE
      clear h hb hsrc hn6 hr hrl HEND hset hnn c4
      refine wp_nop ?_
      conv => arg 2; whnf
      go_wp2_with fail
      refine HE.out.mono ?_
      rintro en w1 ⟨rfl, hp⟩
      have H3 := Lib.hid hp
      clear hp
      go_wp2_with fail
      exact HK.out _ _ rfl H3.out
    · have b2 : ¬ ((k : Int) + 1) ≤ (rl : Int) := by omega
      have HE := Lib.hid (HEND.out s w (by unfold nameAt; simp [List.getElem?_eq_none (show s.report.length ≤ k by omega)]) h hb rfl (Same610.refl _ _))
      clear h hb hsrc hn6 hr hrl HEND
      refine wp_nop ?_
      conv => arg 2; whnf
      go_wp2_with fail
      refine HE.out.mono ?_
      rintro en w1 ⟨rfl, hp⟩
      have H3 := Lib.hid hp
      clear hp
      go_wp2_with fail
      exact HK.out _ _ rfl H3.out

end Go.Proofs.YtdljobmhnnegiaaDoor

/- handleInputLine: does the line begin with one of the words of framing? (the two loops) -/
namespace Go.Proofs.YtdljobmhnnegiaaDoor
open Go.RowKit

theorem upd_words : ∃ c : Array Value, c.size = 9 ∧ (∀ i, (h : i < tUpd.length) → c[i]? = some (.string (S tUpd[i]))) ∧ ∀ w, Calls Tryd.prog 65 #[] w fun e w' => e = .returned (.slice (some ⟨w.heap.size, 0, none⟩) 9 9) ∧ w' = w.alloc (.cells c 9) := by
  refine ⟨(tUpd.map fun p => Value.string (S p)).toArray, rfl, fun i h => by simp [List.getElem?_eq_getElem h], fun w => ?_⟩
  go_enter Tryd.func65, Tryd.ntmps65
  go_wp2
  go_ret
  exact ⟨rfl, rfl⟩
theorem rep_words : ∃ c : Array Value, c.size = 4 ∧ (∀ i, (h : i < tRep.length) → c[i]? = some (.string (S tRep[i]))) ∧ ∀ w, Calls Tryd.prog 66 #[] w fun e w' => e = .returned (.slice (some ⟨w.heap.size, 0, none⟩) 4 4) ∧ w' = w.alloc (.cells c 9) := by
  refine ⟨(tRep.map fun p => Value.string (S p)).toArray, rfl, fun i h => by simp [List.getElem?_eq_getElem h], fun w => ?_⟩
  go_enter Tryd.func66, Tryd.ntmps66
  go_wp2
  go_ret
  exact ⟨rfl, rfl⟩

theorem anyPre_false {l : List UInt8} {ps : List (List UInt8)} (h : ∀ j, (hj : j < ps.length) → hasPre l ps[j] = false) : anyPre l ps = false := by
  unfold anyPre
  rw [List.any_eq_false]
  intro p hp
  obtain ⟨j, hj, e⟩ := List.getElem_of_mem hp
  rw [← e, h j hj]; simp
theorem anyPre_true {l : List UInt8} {ps : List (List UInt8)} {j : Nat} (hj : j < ps.length) (h : hasPre l ps[j] = true) : anyPre l ps = true := by
  unfold anyPre
  rw [List.any_eq_true]
  exact ⟨ps[j], List.getElem_mem hj, h⟩

set_option maxRecDepth 100000 in
set_option maxHeartbeats 40000000 in
theorem mag_upd {cf : Cf} {B : Nat} {xm : List Nat} {tp : List (Nat × Obj)} {s : CS} {w : World} {b1 o1 n1 c1 : Nat} {line : List UInt8}
    (h : Core cf (B :: xm) tp s w) (hb : OB cf B s w) (hs1 : Src tp b1 o1 line) (hn1 : n1 = line.length) (hc1 : n1 ≤ c1)
    (Q : Exit → Act → World → Prop) (d2 d3 d4 d5 d6 d8 d9 d10 d11 d12 d13 d14 d15 d16 d17 d18 d19 d20 d21 d22 d23 d24 d25 d26 d27 d28 d29 d30 d31 d32 d33 d34 d35 d36 d37 d38 d39 d40 d41 d42 d43 d44 d45 d46 d47 d48 d49 d50 d51 d52 d53 d54 d55 d56 d57 d58 d59 d60 d61 d62 d63 d64 d65 d66 d67 d68 d69 d70 d71 d72 d73 d74 d75 d76 d77 d78 d79 d80 d81 d82 d83 d84 d85 d86 d87 d88 d89 d90 d91 d92 d93 d94 d95 d96 d97 d98 d99 d100 d101 d102 d103 d104 d105 d106 d107 d108 d109 d110 d111 d112 d113 d114 d115 d116 d117 d118 d119 d120 d121 d122 d123 d124 d125 d126 d127 d128 d129 d130 d131 d132 d133 d134 d135 d136 d137 d138 d139 d140 d141 d142 d143 d144 d145 d146 d147 d148 d149 d150 d151 d152 d153 d154 d155 d156 d157 d158 d159 d160 d161 d162 d163 d164 d165 d166 d167 d168 d169 d170 d171 d172 d173 d174 d175 d176 d177 d178 d179 d180 d181 d182 d183 d184 d185 d186 d187 d188 d189 d190 d191 d192 d193 d194 d195 d196 d197 d198 d199 d200 d201 d202 d203 d204 d205 d206 d207 d208 d209 d210 d211 d212 d213 d214 d215 d216 d217 d218 d219 d220 d221 d222 d223 d224 d225 d226 d227 d228 d229 d230 d231 d232 d233 d234 d235 d236 d237 d238 d239 d240 d241 d242 d243 d244 d245 d246 d247 d248 d249 d250 d251 d252 d253 d254 d255 d256 d257 d258 d259 d260 d261 d262 d263 d264 d265 d266 d267 d268 d269 d270 d271 d272 d273 d274 d275 d276 d277 d278 d279 d280 d281 d282 d283 d284 d285 d286 d287 d288 d289 d290 d291 d292 d293 d294 d295 d296 d297 d298 d299 d300 d301 d302 d303 d304 d305 d306 d307 d308 d309 d310 d311 d312 d313 d314 d315 d316 d317 d318 d319 d320 d321 d322 d323 d324 d325 d326 d327 d328 d329 d330 d331 d332 d333 d334 d335 d336 d337 : Value)
    (hK : ∀ (u7 u10 u149 u150 u151 u152 u153 u154 u155 u156 u157 u158 u159 : Value) (w' : World), u7 = .bool (anyPre line tUpd) → Core cf (B :: xm) tp s w' → Same610 cf.c w w' → OB cf B s w' → Q .normal ⟨#[.pointer (some ⟨cf.c, 0, none⟩), .slice (some ⟨b1, o1, none⟩) n1 c1, d2, d3, d4, d5, d6, u7, d8, d9, u10, d11, d12, d13, d14, d15, d16, d17, d18, d19, d20, d21, d22, d23, d24, d25, d26, d27, d28, d29, d30, d31, d32, d33, d34, d35, d36, d37, d38, d39, d40, d41, d42, d43, d44, d45, d46, d47, d48, d49, d50, d51, d52, d53, d54, d55, d56, d57, d58, d59, d60, d61, d62, d63, d64, d65, d66, d67, d68, d69, d70, d71, d72, d73, d74, d75, d76, d77, d78, d79, d80, d81, d82, d83, d84, d85, d86, d87, d88, d89, d90, d91, d92, d93, d94, d95, d96, d97, d98, d99, d100, d101, d102, d103, d104, d105, d106, d107, d108, d109, d110, d111, d112, d113, d114, d115, d116, d117, d118, d119, d120, d121, d122, d123, d124, d125, d126, d127, d128, d129, d130, d131, d132, d133, d134, d135, d136, d137, d138, d139, d140, d141, d142, d143, d144, d145, d146, d147, d148, u149, u150, u151, u152, u153, u154, u155, u156, u157, u158, u159, d160, d161, d162, d163, d164, d165, d166, d167, d168, d169, d170, d171, d172, d173, d174, d175, d176, d177, d178, d179, d180, d181, d182, d183, d184, d185, d186, d187, d188, d189, d190, d191, d192, d193, d194, d195, d196, d197, d198, d199, d200, d201, d202, d203, d204, d205, d206, d207, d208, d209, d210, d211, d212, d213, d214, d215, d216, d217, d218, d219, d220, d221, d222, d223, d224, d225, d226, d227, d228, d229, d230, d231, d232, d233, d234, d235, d236, d237, d238, d239, d240, d241, d242, d243, d244, d245, d246, d247, d248, d249, d250, d251, d252, d253, d254, d255, d256, d257, d258, d259, d260, d261, d262, d263, d264, d265, d266, d267, d268, d269, d270, d271, d272, d273, d274, d275, d276, d277, d278, d279, d280, d281, d282, d283, d284, d285, d286, d287, d288, d289, d290, d291, d292, d293, d294, d295, d296, d297, d298, d299, d300, d301, d302, d303, d304, d305, d306, d307, d308, d309, d310, d311, d312, d313, d314, d315, d316, d317, d318, d319, d320, d321, d322, d323, d324, d325, d326, d327, d328, d329, d330, d331, d332, d333, d334, d335, d336, d337], []⟩ w') :
    Code.wp Tryd.prog (code52 [1, 1, 1, 1, 1, 1, 1, 1, 1, 1, 1, 1, 0]) Q ⟨#[.pointer (some ⟨cf.c, 0, none⟩), .slice (some ⟨b1, o1, none⟩) n1 c1, d2, d3, d4, d5, d6, .bool false, d8, d9, d10, d11, d12, d13, d14, d15, d16, d17, d18, d19, d20, d21, d22, d23, d24, d25, d26, d27, d28, d29, d30, d31, d32, d33, d34, d35, d36, d37, d38, d39, d40, d41, d42, d43, d44, d45, d46, d47, d48, d49, d50, d51, d52, d53, d54, d55, d56, d57, d58, d59, d60, d61, d62, d63, d64, d65, d66, d67, d68, d69, d70, d71, d72, d73, d74, d75, d76, d77, d78, d79, d80, d81, d82, d83, d84, d85, d86, d87, d88, d89, d90, d91, d92, d93, d94, d95, d96, d97, d98, d99, d100, d101, d102, d103, d104, d105, d106, d107, d108, d109, d110, d111, d112, d113, d114, d115, d116, d117, d118, d119, d120, d121, d122, d123, d124, d125, d126, d127, d128, d129, d130, d131, d132, d133, d134, d135, d136, d137, d138, d139, d140, d141, d142, d143, d144, d145, d146, d147, d148, d149, d150, d151, d152, d153, d154, d155, d156, d157, d158, d159, d160, d161, d162, d163, d164, d165, d166, d167, d168, d169, d170, d171, d172, d173, d174, d175, d176, d177, d178, d179, d180, d181, d182, d183, d184, d185, d186, d187, d188, d189, d190, d191, d192, d193, d194, d195, d196, d197, d198, d199, d200, d201, d202, d203, d204, d205, d206, d207, d208, d209, d210, d211, d212, d213, d214, d215, d216, d217, d218, d219, d220, d221, d222, d223, d224, d225, d226, d227, d228, d229, d230, d231, d232, d233, d234, d235, d236, d237, d238, d239, d240, d241, d242, d243, d244, d245, d246, d247, d248, d249, d250, d251, d252, d253, d254, d255, d256, d257, d258, d259, d260, d261, d262, d263, d264, d265, d266, d267, d268, d269, d270, d271, d272, d273, d274, d275, d276, d277, d278, d279, d280, d281, d282, d283, d284, d285, d286, d287, d288, d289, d290, d291, d292, d293, d294, d295, d296, d297, d298, d299, d300, d301, d302, d303, d304, d305, d306, d307, d308, d309, d310, d311, d312, d313, d314, d315, d316, d317, d318, d319, d320, d321, d322, d323, d324, d325, d326, d327, d328, d329, d330, d331, d332, d333, d334, d335, d336, d337], []⟩ w := by
  have HK := Lib.hid hK
  have HS1 := Lib.hid hs1
  have HN1 := Lib.hid hn1
  have HH := Lib.hid (And.intro h hb)
  obtain ⟨c, hcs, hci, hcall⟩ := upd_words
  have HCALL := Lib.hid hcall
  have HCI := Lib.hid hci
  clear hK hs1 hn1 h hb hcall hci
  refine wp_nop ?_
  conv => arg 2; whnf
  go_wp2_with fail
  refine (HCALL.out _).mono ?_
  rintro en w1 ⟨rfl, hw1⟩
  obtain ⟨G, hG⟩ : ∃ G, G = w.heap.size := ⟨_, rfl⟩
  have hbel : Below w.heap.size w w1 := by rw [hw1]; exact (Below.refl _ _).alloc (Nat.le_refl _) _
  have H1 : Hid (Core cf (B :: xm) ((G, .cells c 9 (0, 0)) :: tp) s w1 ∧ OB cf B s w1 ∧ Same610 cf.c w w1) := by
    rw [hG, hw1]
    exact ⟨(HH.out.1.new _).take (heap_alloc_new _ _), ⟨HH.out.2.1.below ((Below.refl _ _).alloc (Nat.le_refl _) _), HH.out.2.2⟩, (Same615.block (Below.heap_alloc _ _ _ HH.out.1.lt0.2)).i⟩
  rw [← hG]
  clear hG hbel hw1
  go_wp2_with fail
  go_loopw [7, 151] (fun v7 vc wr => ∃ i : Nat, v7 = .bool false ∧ vc = .int .i64 i ∧ i ≤ 9 ∧ Hid (∀ j, (hj : j < tUpd.length) → j < i → hasPre line tUpd[j] = false) ∧ Hid (Core cf (B :: xm) ((G, .cells c 9 (0, 0)) :: tp) s wr) ∧ Hid (OB cf B s wr) ∧ Hid (Same610 cf.c w wr)) (fun _ vc _ => 9 - (intOf vc).toNat)
  case atStart => exact ⟨0, rfl, rfl, Nat.zero_le _, fun j hj h => by omega, H1.out.1, H1.out.2.1, H1.out.2.2⟩
  case round =>
    obtain ⟨i, rfl, rfl, hi, HA, HC, HOB, HSM⟩ := hrel
    clear H1
    by_cases hlt : i < 9
    · have hil : i < tUpd.length := hlt
      have hmc : wr.cell? ⟨G, i, none⟩ = some (.string (S tUpd[i])) := by
        have := HC.out.tpb (List.mem_cons_self ..)
        simp only at this
        simp only [World.cell?, this]
        rw [← HCI.out i hil]; rfl
      obtain ⟨p, hp⟩ : ∃ p, p = tUpd[i] := ⟨_, rfl⟩
      have hpl : p.length ≤ 20 := by rw [hp]; exact (show ∀ q ∈ tUpd, q.length ≤ 20 by decide) _ (List.getElem_mem hil)
      rw [← hp] at hmc
      have HP1 := Lib.hid hp
      have b0 : (0 : Int) ≤ (i : Int) := by omega
      have b1' : (i : Int) < (9 : Int) := by omega
      have hconv := fun (w : World) => run_bytes_of_string (P := Tryd.prog) w 9 23 5 (S p) Tryd.underlying9 Tryd.underlying23 Tryd.underlying5
      have hsz : (S p).size = p.length := S_size p
      obtain ⟨bo, hbo⟩ : ∃ bo, bo = hasPre line p := ⟨_, rfl⟩
      have HX : Hid (∀ cap fr, p.length ≤ cap → Calls Tryd.prog 55 #[.slice (some ⟨b1, o1, none⟩) n1 c1, .slice (some ⟨wr.heap.size, 0, none⟩) p.length cap] (wr.alloc (.cells (bytesRow (S p) cap) 5 fr)).drew (fun e w' => e = .returned (.bool bo) ∧ (Core cf (B :: xm) ((G, .cells c 9 (0, 0)) :: tp) s w' ∧ OB cf B s w' ∧ Same610 cf.c w w'))) := by
        intro cap fr hge
        have hbel : Below wr.heap.size wr (wr.alloc (.cells (bytesRow (S p) cap) 5 fr)).drew := ((Below.refl _ wr).alloc (Nat.le_refl _) _).drew
        have hC2 := HC.out.below hbel
        have h1 := HS1.out _ (fun q hq => hC2.tpb (List.mem_cons_of_mem _ hq))
        have h2 : Rd (wr.alloc (.cells (bytesRow (S p) cap) 5 fr)).drew wr.heap.size 0 p := rd_bytes (S p) wr cap fr
        refine (hasPrefix_any h1 h2 n1 c1 p.length cap HN1.out rfl hc1).mono ?_
        rintro en w' ⟨rfl, rfl⟩
        exact ⟨by rw [hbo], hC2, ⟨HOB.out.1.below hbel, HOB.out.2⟩, HSM.out.trans (Same615.block (hbel.block _ HC.out.lt0.2)).i⟩
      have HBO := Lib.hid hbo
      clear hp hbo
      cases bo with
      | true =>
        go_wp2_with fail
        refine (HX.out _ _ (grownCap_ge _ _ _ _)).mono ?_
        rintro en w2 ⟨rfl, hC2, hO2, hS2⟩
        have H2 := Lib.hid (And.intro hC2 (And.intro hO2 hS2))
        have HAN : Hid (anyPre line tUpd = true) := anyPre_true hil (by rw [← HP1.out]; exact HBO.out.symm)
        clear hC2 hO2 hS2 HX hconv hmc
        go_wp2_with fail
        refine HK.out _ _ _ _ _ _ _ _ _ _ _ _ _ _ ?_ H2.out.1.tdrop H2.out.2.2 H2.out.2.1
        rw [HAN.out]
      | false =>
        go_wp2_with fail
        refine (HX.out _ _ (grownCap_ge _ _ _ _)).mono ?_
        rintro en w2 ⟨rfl, hC2, hO2, hS2⟩
        have H2 := Lib.hid (And.intro hC2 (And.intro hO2 hS2))
        clear hC2 hO2 hS2 HX hconv hmc
        go_wp2_with fail
        go_roundw
        case rel =>
          refine ⟨i + 1, rfl, by go_num, by omega, fun j hj hji => ?_, H2.out.1, H2.out.2.1, H2.out.2.2⟩
          by_cases e : j = i
          · subst e; rw [← HP1.out]; exact HBO.out.symm
          · exact HA.out j hj (by omega)
        case measure => simp [intOf]; omega
    · have HAN : Hid (anyPre line tUpd = false) := anyPre_false fun j hj => HA.out j hj (by have : tUpd.length = 9 := rfl; omega)
      go_wp2_with fail
      refine HK.out _ _ _ _ _ _ _ _ _ _ _ _ _ _ ?_ HC.out.tdrop HSM.out HOB.out
      rw [HAN.out]

set_option maxRecDepth 100000 in
set_option maxHeartbeats 40000000 in
theorem mag_rep {cf : Cf} {B : Nat} {xm : List Nat} {tp : List (Nat × Obj)} {s : CS} {w : World} {b1 o1 n1 c1 : Nat} {line : List UInt8}
    (h : Core cf (B :: xm) tp s w) (hb : OB cf B s w) (hs1 : Src tp b1 o1 line) (hn1 : n1 = line.length) (hc1 : n1 ≤ c1)
    (Q : Exit → Act → World → Prop) (d2 d3 d4 d5 d6 d8 d9 d10 d11 d12 d13 d14 d15 d16 d17 d18 d19 d20 d21 d22 d23 d24 d25 d26 d27 d28 d29 d30 d31 d32 d33 d34 d35 d36 d37 d38 d39 d40 d41 d42 d43 d44 d45 d46 d47 d48 d49 d50 d51 d52 d53 d54 d55 d56 d57 d58 d59 d60 d61 d62 d63 d64 d65 d66 d67 d68 d69 d70 d71 d72 d73 d74 d75 d76 d77 d78 d79 d80 d81 d82 d83 d84 d85 d86 d87 d88 d89 d90 d91 d92 d93 d94 d95 d96 d97 d98 d99 d100 d101 d102 d103 d104 d105 d106 d107 d108 d109 d110 d111 d112 d113 d114 d115 d116 d117 d118 d119 d120 d121 d122 d123 d124 d125 d126 d127 d128 d129 d130 d131 d132 d133 d134 d135 d136 d137 d138 d139 d140 d141 d142 d143 d144 d145 d146 d147 d148 d149 d150 d151 d152 d153 d154 d155 d156 d157 d158 d159 d160 d161 d162 d163 d164 d165 d166 d167 d168 d169 d170 d171 d172 d173 d174 d175 d176 d177 d178 d179 d180 d181 d182 d183 d184 d185 d186 d187 d188 d189 d190 d191 d192 d193 d194 d195 d196 d197 d198 d199 d200 d201 d202 d203 d204 d205 d206 d207 d208 d209 d210 d211 d212 d213 d214 d215 d216 d217 d218 d219 d220 d221 d222 d223 d224 d225 d226 d227 d228 d229 d230 d231 d232 d233 d234 d235 d236 d237 d238 d239 d240 d241 d242 d243 d244 d245 d246 d247 d248 d249 d250 d251 d252 d253 d254 d255 d256 d257 d258 d259 d260 d261 d262 d263 d264 d265 d266 d267 d268 d269 d270 d271 d272 d273 d274 d275 d276 d277 d278 d279 d280 d281 d282 d283 d284 d285 d286 d287 d288 d289 d290 d291 d292 d293 d294 d295 d296 d297 d298 d299 d300 d301 d302 d303 d304 d305 d306 d307 d308 d309 d310 d311 d312 d313 d314 d315 d316 d317 d318 d319 d320 d321 d322 d323 d324 d325 d326 d327 d328 d329 d330 d331 d332 d333 d334 d335 d336 d337 : Value)
    (hK : ∀ (u7 u12 u170 u171 u172 u173 u174 u175 u176 u177 u178 u179 u180 : Value) (w' : World), u7 = .bool (anyPre line tRep) → Core cf (B :: xm) tp s w' → Same610 cf.c w w' → OB cf B s w' → Q .normal ⟨#[.pointer (some ⟨cf.c, 0, none⟩), .slice (some ⟨b1, o1, none⟩) n1 c1, d2, d3, d4, d5, d6, u7, d8, d9, d10, d11, u12, d13, d14, d15, d16, d17, d18, d19, d20, d21, d22, d23, d24, d25, d26, d27, d28, d29, d30, d31, d32, d33, d34, d35, d36, d37, d38, d39, d40, d41, d42, d43, d44, d45, d46, d47, d48, d49, d50, d51, d52, d53, d54, d55, d56, d57, d58, d59, d60, d61, d62, d63, d64, d65, d66, d67, d68, d69, d70, d71, d72, d73, d74, d75, d76, d77, d78, d79, d80, d81, d82, d83, d84, d85, d86, d87, d88, d89, d90, d91, d92, d93, d94, d95, d96, d97, d98, d99, d100, d101, d102, d103, d104, d105, d106, d107, d108, d109, d110, d111, d112, d113, d114, d115, d116, d117, d118, d119, d120, d121, d122, d123, d124, d125, d126, d127, d128, d129, d130, d131, d132, d133, d134, d135, d136, d137, d138, d139, d140, d141, d142, d143, d144, d145, d146, d147, d148, d149, d150, d151, d152, d153, d154, d155, d156, d157, d158, d159, d160, d161, d162, d163, d164, d165, d166, d167, d168, d169, u170, u171, u172, u173, u174, u175, u176, u177, u178, u179, u180, d181, d182, d183, d184, d185, d186, d187, d188, d189, d190, d191, d192, d193, d194, d195, d196, d197, d198, d199, d200, d201, d202, d203, d204, d205, d206, d207, d208, d209, d210, d211, d212, d213, d214, d215, d216, d217, d218, d219, d220, d221, d222, d223, d224, d225, d226, d227, d228, d229, d230, d231, d232, d233, d234, d235, d236, d237, d238, d239, d240, d241, d242, d243, d244, d245, d246, d247, d248, d249, d250, d251, d252, d253, d254, d255, d256, d257, d258, d259, d260, d261, d262, d263, d264, d265, d266, d267, d268, d269, d270, d271, d272, d273, d274, d275, d276, d277, d278, d279, d280, d281, d282, d283, d284, d285, d286, d287, d288, d289, d290, d291, d292, d293, d294, d295, d296, d297, d298, d299, d300, d301, d302, d303, d304, d305, d306, d307, d308, d309, d310, d311, d312, d313, d314, d315, d316, d317, d318, d319, d320, d321, d322, d323, d324, d325, d326, d327, d328, d329, d330, d331, d332, d333, d334, d335, d336, d337], []⟩ w') :
    Code.wp Tryd.prog (code52 [1, 1, 1, 1, 1, 1, 1, 1, 1, 1, 1, 1, 1, 0, 1, 0, 1]) Q ⟨#[.pointer (some ⟨cf.c, 0, none⟩), .slice (some ⟨b1, o1, none⟩) n1 c1, d2, d3, d4, d5, d6, .bool false, d8, d9, d10, d11, d12, d13, d14, d15, d16, d17, d18, d19, d20, d21, d22, d23, d24, d25, d26, d27, d28, d29, d30, d31, d32, d33, d34, d35, d36, d37, d38, d39, d40, d41, d42, d43, d44, d45, d46, d47, d48, d49, d50, d51, d52, d53, d54, d55, d56, d57, d58, d59, d60, d61, d62, d63, d64, d65, d66, d67, d68, d69, d70, d71, d72, d73, d74, d75, d76, d77, d78, d79, d80, d81, d82, d83, d84, d85, d86, d87, d88, d89, d90, d91, d92, d93, d94, d95, d96, d97, d98, d99, d100, d101, d102, d103, d104, d105, d106, d107, d108, d109, d110, d111, d112, d113, d114, d115, d116, d117, d118, d119, d120, d121, d122, d123, d124, d125, d126, d127, d128, d129, d130, d131, d132, d133, d134, d135, d136, d137, d138, d139, d140, d141, d142, d143, d144, d145, d146, d147, d148, d149, d150, d151, d152, d153, d154, d155, d156, d157, d158, d159, d160, d161, d162, d163, d164, d165, d166, d167, d168, d169, d170, d171, d172, d173, d174, d175, d176, d177, d178, d179, d180, d181, d182, d183, d184, d185, d186, d187, d188, d189, d190, d191, d192, d193, d194, d195, d196, d197, d198, d199, d200, d201, d202, d203, d204, d205, d206, d207, d208, d209, d210, d211, d212, d213, d214, d215, d216, d217, d218, d219, d220, d221, d222, d223, d224, d225, d226, d227, d228, d229, d230, d231, d232, d233, d234, d235, d236, d237, d238, d239, d240, d241, d242, d243, d244, d245, d246, d247, d248, d249, d250, d251, d252, d253, d254, d255, d256, d257, d258, d259, d260, d261, d262, d263, d264, d265, d266, d267, d268, d269, d270, d271, d272, d273, d274, d275, d276, d277, d278, d279, d280, d281, d282, d283, d284, d285, d286, d287, d288, d289, d290, d291, d292, d293, d294, d295, d296, d297, d298, d299, d300, d301, d302, d303, d304, d305, d306, d307, d308, d309, d310, d311, d312, d313, d314, d315, d316, d317, d318, d319, d320, d321, d322, d323, d324, d325, d326, d327, d328, d329, d330, d331, d332, d333, d334, d335, d336, d337], []⟩ w := by
  have HK := Lib.hid hK
  have HS1 := Lib.hid hs1
  have HN1 := Lib.hid hn1
  have HH := Lib.hid (And.intro h hb)
  obtain ⟨c, hcs, hci, hcall⟩ := rep_words
  have HCALL := Lib.hid hcall
  have HCI := Lib.hid hci
  clear hK hs1 hn1 h hb hcall hci
  refine wp_nop ?_
  conv => arg 2; whnf
  go_wp2_with fail
  refine (HCALL.out _).mono ?_
  rintro en w1 ⟨rfl, hw1⟩
  obtain ⟨G, hG⟩ : ∃ G, G = w.heap.size := ⟨_, rfl⟩
  have hbel : Below w.heap.size w w1 := by rw [hw1]; exact (Below.refl _ _).alloc (Nat.le_refl _) _
  have H1 : Hid (Core cf (B :: xm) ((G, .cells c 9 (0, 0)) :: tp) s w1 ∧ OB cf B s w1 ∧ Same610 cf.c w w1) := by
    rw [hG, hw1]
    exact ⟨(HH.out.1.new _).take (heap_alloc_new _ _), ⟨HH.out.2.1.below ((Below.refl _ _).alloc (Nat.le_refl _) _), HH.out.2.2⟩, (Same615.block (Below.heap_alloc _ _ _ HH.out.1.lt0.2)).i⟩
  rw [← hG]
  clear hG hbel hw1
  go_wp2_with fail
  go_loopw [7, 172] (fun v7 vc wr => ∃ i : Nat, v7 = .bool false ∧ vc = .int .i64 i ∧ i ≤ 4 ∧ Hid (∀ j, (hj : j < tRep.length) → j < i → hasPre line tRep[j] = false) ∧ Hid (Core cf (B :: xm) ((G, .cells c 9 (0, 0)) :: tp) s wr) ∧ Hid (OB cf B s wr) ∧ Hid (Same610 cf.c w wr)) (fun _ vc _ => 4 - (intOf vc).toNat)
  case atStart => exact ⟨0, rfl, rfl, Nat.zero_le _, fun j hj h => by omega, H1.out.1, H1.out.2.1, H1.out.2.2⟩
  case round =>
    obtain ⟨i, rfl, rfl, hi, HA, HC, HOB, HSM⟩ := hrel
    clear H1
    by_cases hlt : i < 4
    · have hil : i < tRep.length := hlt
      have hmc : wr.cell? ⟨G, i, none⟩ = some (.string (S tRep[i])) := by
        have := HC.out.tpb (List.mem_cons_self ..)
        simp only at this
        simp only [World.cell?, this]
        rw [← HCI.out i hil]; rfl
      obtain ⟨p, hp⟩ : ∃ p, p = tRep[i] := ⟨_, rfl⟩
      have hpl : p.length ≤ 20 := by rw [hp]; exact (show ∀ q ∈ tRep, q.length ≤ 20 by decide) _ (List.getElem_mem hil)
      rw [← hp] at hmc
      have HP1 := Lib.hid hp
      have b0 : (0 : Int) ≤ (i : Int) := by omega
      have b1' : (i : Int) < (4 : Int) := by omega
      have hconv := fun (w : World) => run_bytes_of_string (P := Tryd.prog) w 9 23 5 (S p) Tryd.underlying9 Tryd.underlying23 Tryd.underlying5
      have hsz : (S p).size = p.length := S_size p
      obtain ⟨bo, hbo⟩ : ∃ bo, bo = hasPre line p := ⟨_, rfl⟩
      have HX : Hid (∀ cap fr, p.length ≤ cap → Calls Tryd.prog 55 #[.slice (some ⟨b1, o1, none⟩) n1 c1, .slice (some ⟨wr.heap.size, 0, none⟩) p.length cap] (wr.alloc (.cells (bytesRow (S p) cap) 5 fr)).drew (fun e w' => e = .returned (.bool bo) ∧ (Core cf (B :: xm) ((G, .cells c 9 (0, 0)) :: tp) s w' ∧ OB cf B s w' ∧ Same610 cf.c w w'))) := by
        intro cap fr hge
        have hbel : Below wr.heap.size wr (wr.alloc (.cells (bytesRow (S p) cap) 5 fr)).drew := ((Below.refl _ wr).alloc (Nat.le_refl _) _).drew
        have hC2 := HC.out.below hbel
        have h1 := HS1.out _ (fun q hq => hC2.tpb (List.mem_cons_of_mem _ hq))
        have h2 : Rd (wr.alloc (.cells (bytesRow (S p) cap) 5 fr)).drew wr.heap.size 0 p := rd_bytes (S p) wr cap fr
        refine (hasPrefix_any h1 h2 n1 c1 p.length cap HN1.out rfl hc1).mono ?_
        rintro en w' ⟨rfl, rfl⟩
        exact ⟨by rw [hbo], hC2, ⟨HOB.out.1.below hbel, HOB.out.2⟩, HSM.out.trans (Same615.block (hbel.block _ HC.out.lt0.2)).i⟩
      have HBO := Lib.hid hbo
      clear hp hbo
      cases bo with
      | true =>
        go_wp2_with fail
        refine (HX.out _ _ (grownCap_ge _ _ _ _)).mono ?_
        rintro en w2 ⟨rfl, hC2, hO2, hS2⟩
        have H2 := Lib.hid (And.intro hC2 (And.intro hO2 hS2))
        have HAN : Hid (anyPre line tRep = true) := anyPre_true hil (by rw [← HP1.out]; exact HBO.out.symm)
        clear hC2 hO2 hS2 HX hconv hmc
        go_wp2_with fail
        refine HK.out _ _ _ _ _ _ _ _ _ _ _ _ _ _ ?_ H2.out.1.tdrop H2.out.2.2 H2.out.2.1
        rw [HAN.out]
      | false =>
        go_wp2_with fail
        refine (HX.out _ _ (grownCap_ge _ _ _ _)).mono ?_
        rintro en w2 ⟨rfl, hC2, hO2, hS2⟩
        have H2 := Lib.hid (And.intro hC2 (And.intro hO2 hS2))
        clear hC2 hO2 hS2 HX hconv hmc
        go_wp2_with fail
        go_roundw
        case rel =>
          refine ⟨i + 1, rfl, by go_num, by omega, fun j hj hji => ?_, H2.out.1, H2.out.2.1, H2.out.2.2⟩
          by_cases e : j = i
          · subst e; rw [← HP1.out]; exact HBO.out.symm
          · exact HA.out j hj (by omega)
        case measure => simp [intOf]; omega
    · have HAN : Hid (anyPre line tRep = false) := anyPre_false fun j hj => HA.out j hj (by have : tRep.length = 4 := rfl; omega)
      go_wp2_with fail
      refine HK.out _ _ _ _ _ _ _ _ _ _ _ _ _ _ ?_ HC.out.tdrop HSM.out HOB.out
      rw [HAN.out]

end Go.Proofs.YtdljobmhnnegiaaDoor

/- handleInputLine: blanks ahead of a line (the loop). -/
namespace Go.Proofs.YtdljobmhnnegiaaDoor
open Go.RowKit

theorem dedent_no {q k : Nat} {l : List UInt8} (h : hasPre l t4 = false) : dedent q l k = (l, k) := by
  cases q with
  | zero => rfl
  | succ q => unfold dedent; rw [if_neg (by rw [h]; simp)]
theorem dedent_yes {q k : Nat} {l : List UInt8} (h : hasPre l t4 = true) (hq : l.length ≤ q) : dedent q l k = dedent (q - 1) (l.drop 4) (k + 1) := by
  cases q with
  | zero => have := hasPre_len _ _ h; unfold t4 at this; simp at this; omega
  | succ q => conv => lhs; unfold dedent
              rw [if_pos h]; rfl

set_option maxRecDepth 100000 in
set_option maxHeartbeats 40000000 in
theorem ded_loop {cf : Cf} {B : Nat} {xm : List Nat} {tp : List (Nat × Obj)} {s : CS} {w : World} {b1 o1 n1 c1 : Nat} {line : List UInt8}
    (h : Core cf (B :: xm) tp s w) (hb : OB cf B s w) (hs1 : Src tp b1 o1 line) (hn1 : n1 = line.length) (hc1 : n1 ≤ c1) (hbig1 : n1 ≤ 1000000)
    (Q : Exit → Act → World → Prop) (d2 d3 d4 d5 d6 d7 d9 d10 d11 d12 d13 d14 d15 d16 d17 d18 d19 d20 d21 d22 d23 d24 d25 d26 d27 d28 d29 d30 d31 d32 d33 d34 d35 d36 d37 d38 d39 d40 d41 d42 d43 d44 d45 d46 d47 d48 d49 d50 d51 d52 d53 d54 d55 d56 d57 d58 d59 d60 d61 d62 d63 d64 d65 d66 d67 d68 d69 d70 d71 d72 d73 d74 d75 d76 d77 d78 d79 d80 d81 d82 d83 d84 d85 d86 d87 d88 d89 d90 d91 d92 d93 d94 d95 d96 d97 d98 d99 d100 d101 d102 d103 d104 d105 d106 d107 d108 d109 d110 d111 d112 d113 d114 d115 d116 d117 d118 d119 d120 d121 d122 d123 d124 d125 d126 d127 d128 d129 d130 d131 d132 d133 d134 d135 d136 d137 d138 d139 d140 d141 d142 d143 d144 d145 d146 d147 d148 d149 d150 d151 d152 d153 d154 d155 d156 d157 d158 d159 d160 d161 d162 d163 d164 d165 d166 d167 d168 d169 d170 d171 d172 d173 d174 d175 d176 d177 d178 d179 d180 d181 d182 d183 d184 d185 d186 d187 d188 d189 d190 d191 d192 d193 d194 d195 d196 d197 d198 d199 d200 d201 d202 d203 d204 d205 d206 d207 d208 d209 d210 d211 d212 d213 d214 d215 d216 d217 d218 d219 d220 d221 d222 d223 d224 d225 d226 d227 d228 d229 d230 d231 d232 d233 d234 d235 d236 d237 d238 d239 d240 d241 d242 d243 d244 d245 d246 d247 d248 d249 d250 d251 d252 d253 d254 d255 d256 d257 d258 d259 d260 d261 d262 d263 d264 d265 d266 d267 d268 d269 d270 d271 d272 d273 d274 d275 d276 d277 d278 d279 d280 d281 d282 d283 d284 d285 d286 d287 d288 d289 d290 d291 d292 d293 d294 d295 d296 d297 d298 d299 d300 d301 d302 d303 d304 d305 d306 d307 d308 d309 d310 d311 d312 d313 d314 d315 d316 d317 d318 d319 d320 d321 d322 d323 d324 d325 d326 d327 d328 d329 d330 d331 d332 d333 d334 d335 d336 d337 : Value)
    (hK : ∀ (u1 u8 u162 u163 u164 u165 u166 u167 u168 u169 : Value) (o' n' c' k' : Nat) (l' : List UInt8) (w' : World), dedent line.length line 0 = (l', k') → u1 = .slice (some ⟨b1, o', none⟩) n' c' → u8 = .int .i64 (k' : Int) → Src tp b1 o' l' → n' = l'.length → n' ≤ c' → n' ≤ n1 → k' ≤ n1 → Core cf (B :: xm) tp s w' → Same610 cf.c w w' → OB cf B s w' → Q .normal ⟨#[.pointer (some ⟨cf.c, 0, none⟩), u1, d2, d3, d4, d5, d6, d7, u8, d9, d10, d11, d12, d13, d14, d15, d16, d17, d18, d19, d20, d21, d22, d23, d24, d25, d26, d27, d28, d29, d30, d31, d32, d33, d34, d35, d36, d37, d38, d39, d40, d41, d42, d43, d44, d45, d46, d47, d48, d49, d50, d51, d52, d53, d54, d55, d56, d57, d58, d59, d60, d61, d62, d63, d64, d65, d66, d67, d68, d69, d70, d71, d72, d73, d74, d75, d76, d77, d78, d79, d80, d81, d82, d83, d84, d85, d86, d87, d88, d89, d90, d91, d92, d93, d94, d95, d96, d97, d98, d99, d100, d101, d102, d103, d104, d105, d106, d107, d108, d109, d110, d111, d112, d113, d114, d115, d116, d117, d118, d119, d120, d121, d122, d123, d124, d125, d126, d127, d128, d129, d130, d131, d132, d133, d134, d135, d136, d137, d138, d139, d140, d141, d142, d143, d144, d145, d146, d147, d148, d149, d150, d151, d152, d153, d154, d155, d156, d157, d158, d159, d160, d161, u162, u163, u164, u165, u166, u167, u168, u169, d170, d171, d172, d173, d174, d175, d176, d177, d178, d179, d180, d181, d182, d183, d184, d185, d186, d187, d188, d189, d190, d191, d192, d193, d194, d195, d196, d197, d198, d199, d200, d201, d202, d203, d204, d205, d206, d207, d208, d209, d210, d211, d212, d213, d214, d215, d216, d217, d218, d219, d220, d221, d222, d223, d224, d225, d226, d227, d228, d229, d230, d231, d232, d233, d234, d235, d236, d237, d238, d239, d240, d241, d242, d243, d244, d245, d246, d247, d248, d249, d250, d251, d252, d253, d254, d255, d256, d257, d258, d259, d260, d261, d262, d263, d264, d265, d266, d267, d268, d269, d270, d271, d272, d273, d274, d275, d276, d277, d278, d279, d280, d281, d282, d283, d284, d285, d286, d287, d288, d289, d290, d291, d292, d293, d294, d295, d296, d297, d298, d299, d300, d301, d302, d303, d304, d305, d306, d307, d308, d309, d310, d311, d312, d313, d314, d315, d316, d317, d318, d319, d320, d321, d322, d323, d324, d325, d326, d327, d328, d329, d330, d331, d332, d333, d334, d335, d336, d337], []⟩ w') :
    Code.wp Tryd.prog (code52 [1, 1, 1, 1, 1, 1, 1, 1, 1, 1, 1, 1, 1, 0, 1, 0, 0]) Q ⟨#[.pointer (some ⟨cf.c, 0, none⟩), .slice (some ⟨b1, o1, none⟩) n1 c1, d2, d3, d4, d5, d6, d7, .int .i64 (0 : Int), d9, d10, d11, d12, d13, d14, d15, d16, d17, d18, d19, d20, d21, d22, d23, d24, d25, d26, d27, d28, d29, d30, d31, d32, d33, d34, d35, d36, d37, d38, d39, d40, d41, d42, d43, d44, d45, d46, d47, d48, d49, d50, d51, d52, d53, d54, d55, d56, d57, d58, d59, d60, d61, d62, d63, d64, d65, d66, d67, d68, d69, d70, d71, d72, d73, d74, d75, d76, d77, d78, d79, d80, d81, d82, d83, d84, d85, d86, d87, d88, d89, d90, d91, d92, d93, d94, d95, d96, d97, d98, d99, d100, d101, d102, d103, d104, d105, d106, d107, d108, d109, d110, d111, d112, d113, d114, d115, d116, d117, d118, d119, d120, d121, d122, d123, d124, d125, d126, d127, d128, d129, d130, d131, d132, d133, d134, d135, d136, d137, d138, d139, d140, d141, d142, d143, d144, d145, d146, d147, d148, d149, d150, d151, d152, d153, d154, d155, d156, d157, d158, d159, d160, d161, d162, d163, d164, d165, d166, d167, d168, d169, d170, d171, d172, d173, d174, d175, d176, d177, d178, d179, d180, d181, d182, d183, d184, d185, d186, d187, d188, d189, d190, d191, d192, d193, d194, d195, d196, d197, d198, d199, d200, d201, d202, d203, d204, d205, d206, d207, d208, d209, d210, d211, d212, d213, d214, d215, d216, d217, d218, d219, d220, d221, d222, d223, d224, d225, d226, d227, d228, d229, d230, d231, d232, d233, d234, d235, d236, d237, d238, d239, d240, d241, d242, d243, d244, d245, d246, d247, d248, d249, d250, d251, d252, d253, d254, d255, d256, d257, d258, d259, d260, d261, d262, d263, d264, d265, d266, d267, d268, d269, d270, d271, d272, d273, d274, d275, d276, d277, d278, d279, d280, d281, d282, d283, d284, d285, d286, d287, d288, d289, d290, d291, d292, d293, d294, d295, d296, d297, d298, d299, d300, d301, d302, d303, d304, d305, d306, d307, d308, d309, d310, d311, d312, d313, d314, d315, d316, d317, d318, d319, d320, d321, d322, d323, d324, d325, d326, d327, d328, d329, d330, d331, d332, d333, d334, d335, d336, d337], []⟩ w := by
  have HK := Lib.hid hK
  have HS1 := Lib.hid hs1
  have HN1 := Lib.hid hn1
  have HH := Lib.hid (And.intro h hb)
  have kc := fun (w : World) (C : Array Value) (n c : Nat) => Lib.run_convert_bytes_const (P := Tryd.prog) w 23 5 C n c Tryd.underlying23 Tryd.underlying5
  clear hK hs1 hn1 h hb
  refine wp_nop ?_
  conv => arg 2; whnf
  go_wp2_with fail
  go_loopw [1, 8] (fun v1 v8 wr => ∃ (o' n' c' k' q : Nat) (l' : List UInt8), v1 = .slice (some ⟨b1, o', none⟩) n' c' ∧ v8 = .int .i64 k' ∧ n' ≤ c' ∧ n' ≤ n1 ∧ Hid (n' = l'.length ∧ k' * 4 + n' = n1) ∧ Hid (l'.length ≤ q ∧ dedent line.length line 0 = dedent q l' k') ∧ Hid (Src tp b1 o' l') ∧ Hid (Core cf (B :: xm) tp s wr) ∧ Hid (OB cf B s wr) ∧ Hid (Same610 cf.c w wr)) (fun v1 _ _ => match v1 with | .slice _ n _ => n | _ => 0)
  case atStart => exact ⟨o1, n1, c1, 0, line.length, line, rfl, rfl, hc1, Nat.le_refl _, ⟨HN1.out, by omega⟩, ⟨Nat.le_refl _, rfl⟩, HS1, HH.out.1, HH.out.2, Same610.refl _ _⟩
  case round =>
    obtain ⟨o', n', c', k', q, l', rfl, rfl, hnc, hnn, HL, HD, HS, HC, HOB, HSM⟩ := hrel
    obtain ⟨bo, hbo⟩ : ∃ bo, bo = hasPre l' t4 := ⟨_, rfl⟩
    have HX : Hid (∀ (C : Array Value) fr, C.toList = vals t4 → Calls Tryd.prog 55 #[.slice (some ⟨b1, o', none⟩) n' c', .slice (some ⟨wr.heap.size, 0, none⟩) 4 4] (wr.alloc (.cells C 5 fr)) (fun e w' => e = .returned (.bool bo) ∧ (Core cf (B :: xm) tp s w' ∧ OB cf B s w' ∧ Same610 cf.c w w'))) := by
      intro C fr hCC
      have hbel : Below wr.heap.size wr (wr.alloc (.cells C 5 fr)) := (Below.refl _ wr).alloc (Nat.le_refl _) _
      have hC2 := HC.out.below hbel
      have h1 := HS.out _ (fun q hq => hC2.tpb hq)
      have h2 := rd_const wr t4 C fr hCC
      refine (hasPrefix_any h1 h2 n' c' 4 4 HL.out.1 rfl hnc).mono ?_
      rintro en w' ⟨rfl, rfl⟩
      exact ⟨by rw [hbo], hC2, ⟨HOB.out.1.below hbel, HOB.out.2⟩, HSM.out.trans (Same615.block (hbel.block _ HC.out.lt0.2)).i⟩
    have HBO := Lib.hid hbo
    clear hbo
    have hk1 : k' ≤ n1 := by have := HL.out.2; omega
    cases bo with
    | true =>
      have h4 : 4 ≤ n' := by have := hasPre_len _ _ HBO.out.symm; have := HL.out.1; unfold t4 at *; simp at *; omega
      have b4 : (4 : Int) ≤ (n' : Int) := by omega
      obtain ⟨AO, hAO⟩ : ∃ AO, AO = if c' = 4 then o' else o' + 4 := ⟨_, rfl⟩
      have hsl : ∀ w', (Instr.slice 23 (.slice (some ⟨b1, o', none⟩) n' c') (some (.int .i64 4)) none none).run Tryd.prog w' = .ok (.slice (some ⟨b1, AO, none⟩) (n' - 4) (c' - 4)) w' := fun w' => by
        rw [hAO]; exact slice_from w' b1 o' n' c' 4 h4 hnc
      have HS2 : Hid (Src tp b1 AO (l'.drop 4)) := fun w' hw => by
        have h1 := HS.out w' hw
        by_cases e : c' = 4
        · have : l'.drop 4 = [] := List.drop_eq_nil_of_le (by have := HL.out.1; omega)
          rw [this]; exact Rd.nil _ _ _
        · rw [hAO, if_neg e]; exact h1.drop 4
      clear hAO
      go_wp2_with fail
      refine (HX.out _ _ rfl).mono ?_
      rintro en w2 ⟨rfl, hC2, hO2, hS2⟩
      have H2 := Lib.hid (And.intro hC2 (And.intro hO2 hS2))
      clear hC2 hO2 hS2 HX
      go_wp2_with fail
      go_roundw
      case rel =>
        exact ⟨AO, n' - 4, c' - 4, k' + 1, q - 1, l'.drop 4, rfl, by go_num, by omega, by omega, ⟨by rw [List.length_drop]; have := HL.out.1; omega, by have := HL.out.2; omega⟩, ⟨by rw [List.length_drop]; have := HD.out.1; omega, HD.out.2.trans (dedent_yes HBO.out.symm HD.out.1)⟩, HS2, H2.out.1, H2.out.2.1, H2.out.2.2⟩
      case measure => simp; omega
    | false =>
      go_wp2_with fail
      refine (HX.out _ _ rfl).mono ?_
      rintro en w2 ⟨rfl, hC2, hO2, hS2⟩
      have H2 := Lib.hid (And.intro hC2 (And.intro hO2 hS2))
      clear hC2 hO2 hS2 HX
      go_wp2_with fail
      exact HK.out _ _ _ _ _ _ _ _ _ _ o' n' c' k' l' _ (HD.out.2.trans (dedent_no HBO.out.symm)) rfl rfl HS.out HL.out.1 hnc hnn hk1 H2.out.1 H2.out.2.2 H2.out.2.1

end Go.Proofs.YtdljobmhnnegiaaDoor

/- What the words of framing tell: the plain functions cutF, actF at them. -/
namespace Go.Proofs.YtdljobmhnnegiaaDoor

theorem hasPre_split {l m : List UInt8} (h : hasPre l m = true) : ∃ r, l = m ++ r := by
  unfold hasPre at h
  rw [Bool.and_eq_true] at h
  have h2 := eq_of_beq h.2
  exact ⟨l.drop m.length, by conv => lhs; rw [← List.take_append_drop m.length l, h2]⟩
theorem hasPre_app (m r : List UInt8) : hasPre (m ++ r) m = true := by
  unfold hasPre
  rw [Bool.and_eq_true]
  exact ⟨decide_eq_true (by simp), by simp⟩

/-- The first blank. -/
theorem idxF_one {c : UInt8} : ∀ (A B : List UInt8) (i : Nat), c ∉ A → idxF [c] (A ++ c :: B) i = some (i + A.length)
  | [], B, i, _ => by
    unfold idxF
    simp only [List.nil_append]
    rw [if_pos (by rw [show c :: B = [c] ++ B by simp]; exact hasPre_app _ _)]; simp
  | a :: A, B, i, h => by
    have ha : a ≠ c := fun e => h (by rw [e]; exact List.mem_cons_self ..)
    unfold idxF
    simp only [List.cons_append]
    rw [if_neg (fun hh => by
      obtain ⟨r, hr⟩ := hasPre_split hh
      simp at hr
      exact ha hr.1)]
    rw [idxF_one A B (i + 1) (fun hm => h (List.mem_cons_of_mem _ hm))]
    simp; omega
theorem cutF_one {c : UInt8} (A B : List UInt8) (h : c ∉ A) : cutF (A ++ c :: B) [c] = (A, B) := by
  unfold cutF
  rw [idxF_one A B 0 h]
  simp

/-- A word of an update, a blank behind its action: the action, what stands behind. -/
def updSplit : List (List UInt8 × List UInt8) :=
  [([82, 85, 78], [32, 32]), ([80, 65, 85, 83, 69], []), ([67, 79, 78, 84], [32]), ([78, 65, 77, 69], [32]), ([80, 65, 83, 83], [32]), ([70, 65, 73, 76], [32]), ([83, 75, 73, 80], [32]), ([65, 84, 84, 82], [32]), ([65, 82, 84, 73, 70, 65, 67, 84, 83], [])]
theorem tUpd_eq : tUpd = updSplit.map fun p => [61, 61, 61, 32] ++ (p.1 ++ 32 :: p.2) := by decide
def repSplit : List (List UInt8 × List UInt8) := [([80, 65, 83, 83, 58], []), ([70, 65, 73, 76, 58], []), ([83, 75, 73, 80, 58], []), ([66, 69, 78, 67, 72, 58], [])]
theorem tRep_eq : tRep = repSplit.map fun p => [45, 45, 45, 32] ++ (p.1 ++ 32 :: p.2) := by decide

theorem upd_split {l : List UInt8} (h : anyPre l tUpd = true) : ∃ p ∈ updSplit, ∃ r, l = [61, 61, 61, 32] ++ (p.1 ++ 32 :: (p.2 ++ r)) := by
  unfold anyPre at h
  obtain ⟨w, hw, hp⟩ := List.any_eq_true.1 h
  rw [tUpd_eq] at hw
  obtain ⟨p, hp1, rfl⟩ := List.mem_map.1 hw
  obtain ⟨r, hr⟩ := hasPre_split hp
  exact ⟨p, hp1, r, by rw [hr]; simp⟩
theorem rep_split {l : List UInt8} (h : anyPre l tRep = true) : ∃ p ∈ repSplit, ∃ r, l = [45, 45, 45, 32] ++ (p.1 ++ 32 :: (p.2 ++ r)) := by
  unfold anyPre at h
  obtain ⟨w, hw, hp⟩ := List.any_eq_true.1 h
  rw [tRep_eq] at hw
  obtain ⟨p, hp1, rfl⟩ := List.mem_map.1 hw
  obtain ⟨r, hr⟩ := hasPre_split hp
  exact ⟨p, hp1, r, by rw [hr]; simp⟩

theorem upd_fact {l : List UInt8} (h : anyPre l tUpd = true) : 4 ≤ l.length ∧ l.getD 0 0 ≠ 45 ∧ ∀ b ∈ (cutF (l.drop 4) [32]).1, b.toNat < 128 := by
  obtain ⟨p, hp, r, rfl⟩ := upd_split h
  have hc := cutF_one (c := 32) p.1 (p.2 ++ r) ((show ∀ q ∈ updSplit, (32 : UInt8) ∉ q.1 by decide) p hp)
  refine ⟨by simp, by simp, ?_⟩
  rw [show (([61, 61, 61, 32] : List UInt8) ++ (p.1 ++ 32 :: (p.2 ++ r))).drop 4 = p.1 ++ 32 :: (p.2 ++ r) by simp, hc]
  exact (show ∀ q ∈ updSplit, ∀ b ∈ q.1, b.toNat < 128 by decide) p hp
theorem rep_fact {l : List UInt8} (h : anyPre l tRep = true) : 4 ≤ l.length ∧ l.getD 0 0 = 45 ∧ ∀ b ∈ (cutF (l.drop 4) [32]).1, b.toNat < 128 := by
  obtain ⟨p, hp, r, rfl⟩ := rep_split h
  have hc := cutF_one (c := 32) p.1 (p.2 ++ r) ((show ∀ q ∈ repSplit, (32 : UInt8) ∉ q.1 by decide) p hp)
  refine ⟨by simp, by simp, ?_⟩
  rw [show (([45, 45, 45, 32] : List UInt8) ++ (p.1 ++ 32 :: (p.2 ++ r))).drop 4 = p.1 ++ 32 :: (p.2 ++ r) by simp, hc]
  exact (show ∀ q ∈ repSplit, ∀ b ∈ q.1, b.toNat < 128 by decide) p hp

end Go.Proofs.YtdljobmhnnegiaaDoor

/- handleInputLine: what a line is. -/
namespace Go.Proofs.YtdljobmhnnegiaaDoor
open Go.RowKit

set_option maxRecDepth 100000 in
set_option maxHeartbeats 40000000 in
theorem stEy {cf : Cf} {B : Nat} {xm : List Nat} {tp : List (Nat × Obj)} {s : CS} {w : World} {b1 o1 n1 c1 : Nat} {saw : Bool} {line : List UInt8}
    (h : Core cf (B :: xm) tp s w) (hb : OB cf B s w) (hs1 : Src tp b1 o1 line) (hn1 : n1 = line.length) (hc1 : n1 ≤ c1) (hbig1 : n1 ≤ 1000000)
    (hr : pe s + s.report.length + 2 * n1 ≤ 9000000) (hok : anyPre line tUpd = true)
    (Q : Exit → Act → World → Prop) (d2 d3 d5 d9 d10 d11 d12 d13 d14 d15 d16 d17 d18 d19 d20 d21 d22 d23 d24 d25 d26 d27 d28 d29 d30 d31 d32 d33 d34 d35 d36 d37 d38 d39 d40 d41 d42 d43 d44 d45 d46 d47 d48 d49 d50 d51 d52 d53 d54 d55 d56 d57 d58 d59 d60 d61 d62 d63 d64 d65 d66 d67 d68 d69 d70 d71 d72 d73 d74 d75 d76 d77 d78 d79 d80 d81 d82 d83 d84 d85 d86 d87 d88 d89 d90 d91 d92 d93 d94 d95 d96 d97 d98 d99 d100 d101 d102 d103 d104 d105 d106 d107 d108 d109 d110 d111 d112 d113 d114 d115 d116 d117 d118 d119 d120 d121 d122 d123 d124 d125 d126 d127 d128 d129 d130 d131 d132 d133 d134 d135 d136 d137 d138 d139 d140 d141 d142 d143 d144 d145 d146 d147 d148 d149 d150 d151 d152 d153 d154 d155 d156 d157 d158 d159 d160 d161 d162 d163 d164 d165 d166 d167 d168 d169 d170 d171 d172 d173 d174 d175 d176 d177 d178 d179 d180 d181 d182 d183 d184 d185 d186 d187 d188 d189 d190 d191 d192 d193 d194 d195 d196 d197 d198 d199 d200 d201 d202 d203 d204 d205 d206 d207 d208 d209 d210 d211 d212 d213 d214 d215 d216 d217 d218 d219 d220 d221 d222 d223 d224 d225 d226 d227 d228 d229 d230 d231 d232 d233 d234 d235 d236 d237 d238 d239 d240 d241 d242 d243 d244 d245 d246 d247 d248 d249 d250 d251 d252 d253 d254 d255 d256 d257 d258 d259 d260 d261 d262 d263 d264 d265 d266 d267 d268 d269 d270 d271 d272 d273 d274 d275 d276 d277 d278 d279 d280 d281 d282 d283 d284 d285 d286 d287 d288 d289 d290 d291 d292 d293 d294 d295 d296 d297 d298 d299 d300 d301 d302 d303 d304 d305 d306 d307 d308 d309 d310 d311 d312 d313 d314 d315 d316 d317 d318 d319 d320 d321 d322 d323 d324 d325 d326 d327 d328 d329 d330 d331 d332 d333 d334 d335 d336 d337 : Value)
    (hK : ∀ (a : Act) (w' : World), a.defers = [] → HP cf B xm tp (lineHF s saw line) w (.returned (.tuple #[])) w' → Q .ret a w') :
    Code.wp Tryd.prog (code52 [1, 1, 1, 1, 1, 1, 1, 1, 1, 1, 1, 1, 1]) Q ⟨#[.pointer (some ⟨cf.c, 0, none⟩), .slice (some ⟨b1, o1, none⟩) n1 c1, d2, d3, .bool saw, d5, .slice (some ⟨b1, o1, none⟩) n1 c1, .bool true, .int .i64 (0 : Int), d9, d10, d11, d12, d13, d14, d15, d16, d17, d18, d19, d20, d21, d22, d23, d24, d25, d26, d27, d28, d29, d30, d31, d32, d33, d34, d35, d36, d37, d38, d39, d40, d41, d42, d43, d44, d45, d46, d47, d48, d49, d50, d51, d52, d53, d54, d55, d56, d57, d58, d59, d60, d61, d62, d63, d64, d65, d66, d67, d68, d69, d70, d71, d72, d73, d74, d75, d76, d77, d78, d79, d80, d81, d82, d83, d84, d85, d86, d87, d88, d89, d90, d91, d92, d93, d94, d95, d96, d97, d98, d99, d100, d101, d102, d103, d104, d105, d106, d107, d108, d109, d110, d111, d112, d113, d114, d115, d116, d117, d118, d119, d120, d121, d122, d123, d124, d125, d126, d127, d128, d129, d130, d131, d132, d133, d134, d135, d136, d137, d138, d139, d140, d141, d142, d143, d144, d145, d146, d147, d148, d149, d150, d151, d152, d153, d154, d155, d156, d157, d158, d159, d160, d161, d162, d163, d164, d165, d166, d167, d168, d169, d170, d171, d172, d173, d174, d175, d176, d177, d178, d179, d180, d181, d182, d183, d184, d185, d186, d187, d188, d189, d190, d191, d192, d193, d194, d195, d196, d197, d198, d199, d200, d201, d202, d203, d204, d205, d206, d207, d208, d209, d210, d211, d212, d213, d214, d215, d216, d217, d218, d219, d220, d221, d222, d223, d224, d225, d226, d227, d228, d229, d230, d231, d232, d233, d234, d235, d236, d237, d238, d239, d240, d241, d242, d243, d244, d245, d246, d247, d248, d249, d250, d251, d252, d253, d254, d255, d256, d257, d258, d259, d260, d261, d262, d263, d264, d265, d266, d267, d268, d269, d270, d271, d272, d273, d274, d275, d276, d277, d278, d279, d280, d281, d282, d283, d284, d285, d286, d287, d288, d289, d290, d291, d292, d293, d294, d295, d296, d297, d298, d299, d300, d301, d302, d303, d304, d305, d306, d307, d308, d309, d310, d311, d312, d313, d314, d315, d316, d317, d318, d319, d320, d321, d322, d323, d324, d325, d326, d327, d328, d329, d330, d331, d332, d333, d334, d335, d336, d337], []⟩ w := by
  have HK := Lib.hid hK
  clear hK
  have hf := upd_fact hok
  have HX := Lib.hid (fun Q => @stFy cf B xm tp s w b1 o1 n1 c1 b1 o1 n1 c1 0 saw line line h hb hs1 hn1 hc1 (by rw [hn1]; exact hf.1) hs1 hn1 hc1 hbig1 hbig1 hr (by omega) hf.2.2 Q)
  have HU : Hid (lineHF s saw line = if line.getD 0 0 = 45 then repF s saw line (actF line) (nameF line) 0 else updF s saw line (actF line) (nameF line)) := by show _ = _; unfold lineHF; rw [if_pos hok, if_neg hf.2.1]
  clear h hb hs1 hn1 hc1 hbig1 hr hok hf
  refine wp_nop ?_
  conv => arg 2; whnf
  refine wp_seq_k ?_
  intro K hKK
  have HKK := Lib.hid hKK
  clear hKK
  go_wp2_with fail
  refine HKK.out _ _ ?_
  refine HX.out _ _ _ _ _ _ _ _ _ _ _ _ _ _ _ _ _ _ _ _ _ _ _ _ _ _ _ _ _ _ _ _ _ _ _ _ _ _ _ _ _ _ _ _ _ _ _ _ _ _ _ _ _ _ _ _ _ _ _ _ _ _ _ _ _ _ _ _ _ _ _ _ _ _ _ _ _ _ _ _ _ _ _ _ _ _ _ _ _ _ _ _ _ _ _ _ _ _ _ _ _ _ _ _ _ _ _ _ _ _ _ _ _ _ _ _ _ _ _ _ _ _ _ _ _ _ _ _ _ _ _ _ _ _ _ _ _ _ _ _ _ _ _ _ _ _ _ _ _ _ _ _ _ _ _ _ _ _ _ _ _ _ _ _ _ _ _ _ _ _ _ _ _ _ _ _ _ _ _ _ _ _ _ _ _ _ _ _ _ _ _ _ _ _ _ _ _ _ _ _ _ _ _ _ _ _ _ _ _ _ _ _ _ _ _ _ _ _ _ _ _ _ _ _ _ _ _ _ _ _ _ _ _ _ _ _ _ _ _ _ _ _ _ _ _ _ _ _ _ _ _ _ _ _ _ _ _ _ _ _ _ _ _ _ _ _ _ _ _ _ _ _ _ _ _ _ _ _ _ _ _ _ _ _ _ _ _ _ _ _ _ _ _ _ _ _ _ _ _ _ _ _ _ _ _ _ _ _ _ _ _ _ _ _ _ _ _ _ _ _ _ _ _ _ _ _ _ _ _ _ _ _ _ ?_
  intro a w' ha hp
  refine HK.out a w' ha ?_
  rw [HU.out]
  exact hp

set_option maxRecDepth 100000 in
set_option maxHeartbeats 40000000 in
theorem stEn {cf : Cf} {B : Nat} {xm : List Nat} {tp : List (Nat × Obj)} {s : CS} {w : World} {b1 o1 n1 c1 : Nat} {saw : Bool} {line : List UInt8}
    (h : Core cf (B :: xm) tp s w) (hb : OB cf B s w) (hs1 : Src tp b1 o1 line) (hn1 : n1 = line.length) (hc1 : n1 ≤ c1) (hbig1 : n1 ≤ 1000000)
    (hr : pe s + s.report.length + 2 * n1 ≤ 9000000) (hok : anyPre line tUpd = false)
    (Q : Exit → Act → World → Prop) (d2 d3 d5 d9 d10 d11 d12 d13 d14 d15 d16 d17 d18 d19 d20 d21 d22 d23 d24 d25 d26 d27 d28 d29 d30 d31 d32 d33 d34 d35 d36 d37 d38 d39 d40 d41 d42 d43 d44 d45 d46 d47 d48 d49 d50 d51 d52 d53 d54 d55 d56 d57 d58 d59 d60 d61 d62 d63 d64 d65 d66 d67 d68 d69 d70 d71 d72 d73 d74 d75 d76 d77 d78 d79 d80 d81 d82 d83 d84 d85 d86 d87 d88 d89 d90 d91 d92 d93 d94 d95 d96 d97 d98 d99 d100 d101 d102 d103 d104 d105 d106 d107 d108 d109 d110 d111 d112 d113 d114 d115 d116 d117 d118 d119 d120 d121 d122 d123 d124 d125 d126 d127 d128 d129 d130 d131 d132 d133 d134 d135 d136 d137 d138 d139 d140 d141 d142 d143 d144 d145 d146 d147 d148 d149 d150 d151 d152 d153 d154 d155 d156 d157 d158 d159 d160 d161 d162 d163 d164 d165 d166 d167 d168 d169 d170 d171 d172 d173 d174 d175 d176 d177 d178 d179 d180 d181 d182 d183 d184 d185 d186 d187 d188 d189 d190 d191 d192 d193 d194 d195 d196 d197 d198 d199 d200 d201 d202 d203 d204 d205 d206 d207 d208 d209 d210 d211 d212 d213 d214 d215 d216 d217 d218 d219 d220 d221 d222 d223 d224 d225 d226 d227 d228 d229 d230 d231 d232 d233 d234 d235 d236 d237 d238 d239 d240 d241 d242 d243 d244 d245 d246 d247 d248 d249 d250 d251 d252 d253 d254 d255 d256 d257 d258 d259 d260 d261 d262 d263 d264 d265 d266 d267 d268 d269 d270 d271 d272 d273 d274 d275 d276 d277 d278 d279 d280 d281 d282 d283 d284 d285 d286 d287 d288 d289 d290 d291 d292 d293 d294 d295 d296 d297 d298 d299 d300 d301 d302 d303 d304 d305 d306 d307 d308 d309 d310 d311 d312 d313 d314 d315 d316 d317 d318 d319 d320 d321 d322 d323 d324 d325 d326 d327 d328 d329 d330 d331 d332 d333 d334 d335 d336 d337 : Value)
    (hK : ∀ (a : Act) (w' : World), a.defers = [] → HP cf B xm tp (lineHF s saw line) w (.returned (.tuple #[])) w' → Q .ret a w') :
    Code.wp Tryd.prog (code52 [1, 1, 1, 1, 1, 1, 1, 1, 1, 1, 1, 1, 1]) Q ⟨#[.pointer (some ⟨cf.c, 0, none⟩), .slice (some ⟨b1, o1, none⟩) n1 c1, d2, d3, .bool saw, d5, .slice (some ⟨b1, o1, none⟩) n1 c1, .bool false, .int .i64 (0 : Int), d9, d10, d11, d12, d13, d14, d15, d16, d17, d18, d19, d20, d21, d22, d23, d24, d25, d26, d27, d28, d29, d30, d31, d32, d33, d34, d35, d36, d37, d38, d39, d40, d41, d42, d43, d44, d45, d46, d47, d48, d49, d50, d51, d52, d53, d54, d55, d56, d57, d58, d59, d60, d61, d62, d63, d64, d65, d66, d67, d68, d69, d70, d71, d72, d73, d74, d75, d76, d77, d78, d79, d80, d81, d82, d83, d84, d85, d86, d87, d88, d89, d90, d91, d92, d93, d94, d95, d96, d97, d98, d99, d100, d101, d102, d103, d104, d105, d106, d107, d108, d109, d110, d111, d112, d113, d114, d115, d116, d117, d118, d119, d120, d121, d122, d123, d124, d125, d126, d127, d128, d129, d130, d131, d132, d133, d134, d135, d136, d137, d138, d139, d140, d141, d142, d143, d144, d145, d146, d147, d148, d149, d150, d151, d152, d153, d154, d155, d156, d157, d158, d159, d160, d161, d162, d163, d164, d165, d166, d167, d168, d169, d170, d171, d172, d173, d174, d175, d176, d177, d178, d179, d180, d181, d182, d183, d184, d185, d186, d187, d188, d189, d190, d191, d192, d193, d194, d195, d196, d197, d198, d199, d200, d201, d202, d203, d204, d205, d206, d207, d208, d209, d210, d211, d212, d213, d214, d215, d216, d217, d218, d219, d220, d221, d222, d223, d224, d225, d226, d227, d228, d229, d230, d231, d232, d233, d234, d235, d236, d237, d238, d239, d240, d241, d242, d243, d244, d245, d246, d247, d248, d249, d250, d251, d252, d253, d254, d255, d256, d257, d258, d259, d260, d261, d262, d263, d264, d265, d266, d267, d268, d269, d270, d271, d272, d273, d274, d275, d276, d277, d278, d279, d280, d281, d282, d283, d284, d285, d286, d287, d288, d289, d290, d291, d292, d293, d294, d295, d296, d297, d298, d299, d300, d301, d302, d303, d304, d305, d306, d307, d308, d309, d310, d311, d312, d313, d314, d315, d316, d317, d318, d319, d320, d321, d322, d323, d324, d325, d326, d327, d328, d329, d330, d331, d332, d333, d334, d335, d336, d337], []⟩ w := by
  have HK := Lib.hid hK
  clear hK
  have HH := Lib.hid (And.intro h (And.intro hb (And.intro hs1 (And.intro hn1 (And.intro hc1 (And.intro hbig1 hr))))))
  have HOK := Lib.hid hok
  clear h hb hs1 hn1 hc1 hbig1 hr hok
  refine wp_nop ?_
  conv => arg 2; whnf
  refine wp_seq_k ?_
  intro K hKK
  have HKK := Lib.hid hKK
  clear hKK
  go_upto_block 2 with fail
  refine ded_loop HH.out.1 HH.out.2.1 HH.out.2.2.1 HH.out.2.2.2.1 HH.out.2.2.2.2.1 HH.out.2.2.2.2.2.1 _ _ _ _ _ _ _ _ _ _ _ _ _ _ _ _ _ _ _ _ _ _ _ _ _ _ _ _ _ _ _ _ _ _ _ _ _ _ _ _ _ _ _ _ _ _ _ _ _ _ _ _ _ _ _ _ _ _ _ _ _ _ _ _ _ _ _ _ _ _ _ _ _ _ _ _ _ _ _ _ _ _ _ _ _ _ _ _ _ _ _ _ _ _ _ _ _ _ _ _ _ _ _ _ _ _ _ _ _ _ _ _ _ _ _ _ _ _ _ _ _ _ _ _ _ _ _ _ _ _ _ _ _ _ _ _ _ _ _ _ _ _ _ _ _ _ _ _ _ _ _ _ _ _ _ _ _ _ _ _ _ _ _ _ _ _ _ _ _ _ _ _ _ _ _ _ _ _ _ _ _ _ _ _ _ _ _ _ _ _ _ _ _ _ _ _ _ _ _ _ _ _ _ _ _ _ _ _ _ _ _ _ _ _ _ _ _ _ _ _ _ _ _ _ _ _ _ _ _ _ _ _ _ _ _ _ _ _ _ _ _ _ _ _ _ _ _ _ _ _ _ _ _ _ _ _ _ _ _ _ _ _ _ _ _ _ _ _ _ _ _ _ _ _ _ _ _ _ _ _ _ _ _ _ _ _ _ _ _ _ _ _ _ _ _ _ _ _ _ _ _ _ _ _ _ _ _ _ _ _ _ _ _ _ _ _ _ _ _ _ _ _ _ _ _ _ _ _ _ _ _ _ _ _ _ _ ?_
  intro u1 u8 u162 u163 u164 u165 u166 u167 u168 u169 o' n' c' k' l' w1 hd hu1 hu8 hS hn' hc' hnn hkn hC hSM hO
  subst hu1
  subst hu8
  have HD := Lib.hid hd
  have H1 := Lib.hid (And.intro hC (And.intro hO (And.intro hS (And.intro hn' (And.intro hc' (And.intro hnn (And.intro hkn hSM)))))))
  clear hd hS hn' hc' hnn hkn hC hSM hO
  dsimp only
  go_step
  go_step
  refine mag_rep H1.out.1 H1.out.2.1 H1.out.2.2.1 H1.out.2.2.2.1 H1.out.2.2.2.2.1 _ _ _ _ _ _ _ _ _ _ _ _ _ _ _ _ _ _ _ _ _ _ _ _ _ _ _ _ _ _ _ _ _ _ _ _ _ _ _ _ _ _ _ _ _ _ _ _ _ _ _ _ _ _ _ _ _ _ _ _ _ _ _ _ _ _ _ _ _ _ _ _ _ _ _ _ _ _ _ _ _ _ _ _ _ _ _ _ _ _ _ _ _ _ _ _ _ _ _ _ _ _ _ _ _ _ _ _ _ _ _ _ _ _ _ _ _ _ _ _ _ _ _ _ _ _ _ _ _ _ _ _ _ _ _ _ _ _ _ _ _ _ _ _ _ _ _ _ _ _ _ _ _ _ _ _ _ _ _ _ _ _ _ _ _ _ _ _ _ _ _ _ _ _ _ _ _ _ _ _ _ _ _ _ _ _ _ _ _ _ _ _ _ _ _ _ _ _ _ _ _ _ _ _ _ _ _ _ _ _ _ _ _ _ _ _ _ _ _ _ _ _ _ _ _ _ _ _ _ _ _ _ _ _ _ _ _ _ _ _ _ _ _ _ _ _ _ _ _ _ _ _ _ _ _ _ _ _ _ _ _ _ _ _ _ _ _ _ _ _ _ _ _ _ _ _ _ _ _ _ _ _ _ _ _ _ _ _ _ _ _ _ _ _ _ _ _ _ _ _ _ _ _ _ _ _ _ _ _ _ _ _ _ _ _ _ _ _ _ _ _ _ _ _ _ _ _ _ _ _ _ _ _ _ _ _ ?_
  intro x7 x12 x170 x171 x172 x173 x174 x175 x176 x177 x178 x179 x180 w2 hx7 hC2 hSM2 hO2
  subst hx7
  have H2 := Lib.hid (And.intro hC2 (And.intro hO2 hSM2))
  clear hC2 hSM2 hO2
  dsimp only
  have hn1b := HH.out.2.2.2.2.2.1
  have hnn := H1.out.2.2.2.2.2.1
  have hkn := H1.out.2.2.2.2.2.2.1
  obtain ⟨bo, hbo⟩ : ∃ bo, bo = anyPre l' tRep := ⟨_, rfl⟩
  rw [← hbo]
  have HBO := Lib.hid hbo
  clear hbo
  cases bo with
  | true =>
    have hf := rep_fact HBO.out.symm
    have HX := Lib.hid (fun Q => @stFy cf B xm tp s w2 b1 o' n' c' b1 o1 n1 c1 k' saw l' line H2.out.1 H2.out.2.1 H1.out.2.2.1 H1.out.2.2.2.1 H1.out.2.2.2.2.1 (by rw [H1.out.2.2.2.1]; exact hf.1) HH.out.2.2.1 HH.out.2.2.2.1 HH.out.2.2.2.2.1 hn1b (by omega) HH.out.2.2.2.2.2.2 (by omega) hf.2.2 Q)
    have HU : Hid (lineHF s saw line = if l'.getD 0 0 = 45 then repF s saw line (actF l') (nameF l') k' else updF s saw line (actF l') (nameF l')) := by
      show _ = _
      unfold lineHF
      rw [if_neg (by rw [HOK.out]; simp), HD.out]
      dsimp only
      rw [if_pos HBO.out.symm, if_pos hf.2.1]
    clear hf
    go_wp2_with fail
    refine HKK.out _ _ ?_
    refine HX.out _ _ _ _ _ _ _ _ _ _ _ _ _ _ _ _ _ _ _ _ _ _ _ _ _ _ _ _ _ _ _ _ _ _ _ _ _ _ _ _ _ _ _ _ _ _ _ _ _ _ _ _ _ _ _ _ _ _ _ _ _ _ _ _ _ _ _ _ _ _ _ _ _ _ _ _ _ _ _ _ _ _ _ _ _ _ _ _ _ _ _ _ _ _ _ _ _ _ _ _ _ _ _ _ _ _ _ _ _ _ _ _ _ _ _ _ _ _ _ _ _ _ _ _ _ _ _ _ _ _ _ _ _ _ _ _ _ _ _ _ _ _ _ _ _ _ _ _ _ _ _ _ _ _ _ _ _ _ _ _ _ _ _ _ _ _ _ _ _ _ _ _ _ _ _ _ _ _ _ _ _ _ _ _ _ _ _ _ _ _ _ _ _ _ _ _ _ _ _ _ _ _ _ _ _ _ _ _ _ _ _ _ _ _ _ _ _ _ _ _ _ _ _ _ _ _ _ _ _ _ _ _ _ _ _ _ _ _ _ _ _ _ _ _ _ _ _ _ _ _ _ _ _ _ _ _ _ _ _ _ _ _ _ _ _ _ _ _ _ _ _ _ _ _ _ _ _ _ _ _ _ _ _ _ _ _ _ _ _ _ _ _ _ _ _ _ _ _ _ _ _ _ _ _ _ _ _ _ _ _ _ _ _ _ _ _ _ _ _ _ _ _ _ _ _ _ _ _ _ _ _ _ _ ?_
    intro a w' ha hp
    refine HK.out a w' ha ?_
    rw [HU.out]
    exact ⟨hp.1, hp.2.1, (H1.out.2.2.2.2.2.2.2.trans H2.out.2.2).trans hp.2.2.1, hp.2.2.2⟩
  | false =>
    have HX := Lib.hid (fun Q => @stFn cf B xm tp s w2 b1 o1 n1 c1 k' (.slice (some ⟨b1, o', none⟩) n' c') (.bool saw) line H2.out.1 H2.out.2.1 HH.out.2.2.1 HH.out.2.2.2.1 HH.out.2.2.2.2.1 hn1b HH.out.2.2.2.2.2.2 (by omega) Q)
    have HU : Hid (lineHF s saw line = outW (nameAt s k') line) := by
      show _ = _
      unfold lineHF
      rw [if_neg (by rw [HOK.out]; simp), HD.out]
      dsimp only
      rw [if_neg (by rw [← HBO.out]; simp)]
    go_wp2_with fail
    refine HKK.out _ _ ?_
    refine HX.out _ _ _ _ _ _ _ _ _ _ _ _ _ _ _ _ _ _ _ _ _ _ _ _ _ _ _ _ _ _ _ _ _ _ _ _ _ _ _ _ _ _ _ _ _ _ _ _ _ _ _ _ _ _ _ _ _ _ _ _ _ _ _ _ _ _ _ _ _ _ _ _ _ _ _ _ _ _ _ _ _ _ _ _ _ _ _ _ _ _ _ _ _ _ _ _ _ _ _ _ _ _ _ _ _ _ _ _ _ _ _ _ _ _ _ _ _ _ _ _ _ _ _ _ _ _ _ _ _ _ _ _ _ _ _ _ _ _ _ _ _ _ _ _ _ _ _ _ _ _ _ _ _ _ _ _ _ _ _ _ _ _ _ _ _ _ _ _ _ _ _ _ _ _ _ _ _ _ _ _ _ _ _ _ _ _ _ _ _ _ _ _ _ _ _ _ _ _ _ _ _ _ _ _ _ _ _ _ _ _ _ _ _ _ _ _ _ _ _ _ _ _ _ _ _ _ _ _ _ _ _ _ _ _ _ _ _ _ _ _ _ _ _ _ _ _ _ _ _ _ _ _ _ _ _ _ _ _ _ _ _ _ _ _ _ _ _ _ _ _ _ _ _ _ _ _ _ _ _ _ _ _ _ _ _ _ _ _ _ _ _ _ _ _ _ _ _ _ _ _ _ _ _ _ _ _ _ _ _ _ _ _ _ _ _ _ _ _ _ _ _ _ _ _ _ _ _ _ _ _ _ _ _ ?_
    intro a w' ha hp
    refine HK.out a w' ha ?_
    rw [HU.out]
    exact ⟨hp.1, hp.2.1, (H1.out.2.2.2.2.2.2.2.trans H2.out.2.2).trans hp.2.2.1, hp.2.2.2⟩

end Go.Proofs.YtdljobmhnnegiaaDoor

/- handleInputLine: behind the two lines that end all. -/
namespace Go.Proofs.YtdljobmhnnegiaaDoor
open Go.RowKit

/-- The mark that a package has no test files. -/
def skipF (s : CS) (line tr : List UInt8) : CS := if hasPre line tSkipPre = true ∧ hasSuf tr tSkipSuf = true ∧ s.report = [] then { s with result := tskip } else s
theorem skipF_out (s : CS) (line tr : List UInt8) : (skipF s line tr).out = s.out := by unfold skipF; split <;> rfl
theorem skipF_pe (s : CS) (line tr : List UInt8) : pe (skipF s line tr) = pe s := by unfold skipF; split <;> rfl
theorem skipF_rep (s : CS) (line tr : List UInt8) : (skipF s line tr).report = s.report := by unfold skipF; split <;> rfl

set_option maxRecDepth 100000 in
set_option maxHeartbeats 40000000 in
theorem skip_test {cf : Cf} {B : Nat} {xm : List Nat} {tp : List (Nat × Obj)} {s : CS} {w : World} {b1 o1 n1 c1 b5 o5 n5 c5 : Nat} {saw : Bool} {line tr : List UInt8}
    (h : Core cf (B :: xm) tp s w) (hb : OB cf B s w) (hs1 : Src tp b1 o1 line) (hn1 : n1 = line.length) (hc1 : n1 ≤ c1) (_hbig1 : n1 ≤ 1000000)
    (hs5 : Src tp b5 o5 tr) (hn5 : n5 = tr.length) (hc5 : n5 ≤ c5) (hbig5 : n5 ≤ 1000000)
    (Q : Exit → Act → World → Prop) (d2 d3 d6 d7 d8 d9 d10 d11 d12 d13 d14 d15 d16 d17 d18 d19 d20 d21 d22 d23 d24 d25 d26 d27 d28 d29 d30 d31 d32 d33 d34 d35 d36 d37 d38 d39 d40 d41 d42 d43 d44 d45 d46 d47 d48 d49 d50 d51 d52 d53 d54 d55 d56 d57 d58 d59 d60 d61 d62 d63 d64 d65 d66 d67 d68 d69 d70 d71 d72 d73 d74 d75 d76 d77 d78 d79 d80 d81 d82 d83 d84 d85 d86 d87 d88 d89 d90 d91 d92 d93 d94 d95 d96 d97 d98 d99 d100 d101 d102 d103 d104 d105 d106 d107 d108 d109 d110 d111 d112 d113 d114 d115 d116 d117 d118 d119 d120 d121 d122 d123 d124 d125 d126 d127 d128 d129 d130 d131 d132 d133 d134 d135 d136 d137 d138 d139 d140 d141 d142 d143 d144 d145 d146 d147 d148 d149 d150 d151 d152 d153 d154 d155 d156 d157 d158 d159 d160 d161 d162 d163 d164 d165 d166 d167 d168 d169 d170 d171 d172 d173 d174 d175 d176 d177 d178 d179 d180 d181 d182 d183 d184 d185 d186 d187 d188 d189 d190 d191 d192 d193 d194 d195 d196 d197 d198 d199 d200 d201 d202 d203 d204 d205 d206 d207 d208 d209 d210 d211 d212 d213 d214 d215 d216 d217 d218 d219 d220 d221 d222 d223 d224 d225 d226 d227 d228 d229 d230 d231 d232 d233 d234 d235 d236 d237 d238 d239 d240 d241 d242 d243 d244 d245 d246 d247 d248 d249 d250 d251 d252 d253 d254 d255 d256 d257 d258 d259 d260 d261 d262 d263 d264 d265 d266 d267 d268 d269 d270 d271 d272 d273 d274 d275 d276 d277 d278 d279 d280 d281 d282 d283 d284 d285 d286 d287 d288 d289 d290 d291 d292 d293 d294 d295 d296 d297 d298 d299 d300 d301 d302 d303 d304 d305 d306 d307 d308 d309 d310 d311 d312 d313 d314 d315 d316 d317 d318 d319 d320 d321 d322 d323 d324 d325 d326 d327 d328 d329 d330 d331 d332 d333 d334 d335 d336 d337 : Value)
    (hK : ∀ (u127 u128 u129 u130 u131 u132 u133 u134 u135 u136 u137 u138 u139 u140 u141 u142 u143 u144 u145 u146 u147 : Value) (w' : World), Core cf (B :: xm) tp (skipF s line tr) w' → Same610 cf.c w w' → OB cf B (skipF s line tr) w' → Q .normal ⟨#[.pointer (some ⟨cf.c, 0, none⟩), .slice (some ⟨b1, o1, none⟩) n1 c1, d2, d3, .bool saw, .slice (some ⟨b5, o5, none⟩) n5 c5, d6, d7, d8, d9, d10, d11, d12, d13, d14, d15, d16, d17, d18, d19, d20, d21, d22, d23, d24, d25, d26, d27, d28, d29, d30, d31, d32, d33, d34, d35, d36, d37, d38, d39, d40, d41, d42, d43, d44, d45, d46, d47, d48, d49, d50, d51, d52, d53, d54, d55, d56, d57, d58, d59, d60, d61, d62, d63, d64, d65, d66, d67, d68, d69, d70, d71, d72, d73, d74, d75, d76, d77, d78, d79, d80, d81, d82, d83, d84, d85, d86, d87, d88, d89, d90, d91, d92, d93, d94, d95, d96, d97, d98, d99, d100, d101, d102, d103, d104, d105, d106, d107, d108, d109, d110, d111, d112, d113, d114, d115, d116, d117, d118, d119, d120, d121, d122, d123, d124, d125, d126, u127, u128, u129, u130, u131, u132, u133, u134, u135, u136, u137, u138, u139, u140, u141, u142, u143, u144, u145, u146, u147, d148, d149, d150, d151, d152, d153, d154, d155, d156, d157, d158, d159, d160, d161, d162, d163, d164, d165, d166, d167, d168, d169, d170, d171, d172, d173, d174, d175, d176, d177, d178, d179, d180, d181, d182, d183, d184, d185, d186, d187, d188, d189, d190, d191, d192, d193, d194, d195, d196, d197, d198, d199, d200, d201, d202, d203, d204, d205, d206, d207, d208, d209, d210, d211, d212, d213, d214, d215, d216, d217, d218, d219, d220, d221, d222, d223, d224, d225, d226, d227, d228, d229, d230, d231, d232, d233, d234, d235, d236, d237, d238, d239, d240, d241, d242, d243, d244, d245, d246, d247, d248, d249, d250, d251, d252, d253, d254, d255, d256, d257, d258, d259, d260, d261, d262, d263, d264, d265, d266, d267, d268, d269, d270, d271, d272, d273, d274, d275, d276, d277, d278, d279, d280, d281, d282, d283, d284, d285, d286, d287, d288, d289, d290, d291, d292, d293, d294, d295, d296, d297, d298, d299, d300, d301, d302, d303, d304, d305, d306, d307, d308, d309, d310, d311, d312, d313, d314, d315, d316, d317, d318, d319, d320, d321, d322, d323, d324, d325, d326, d327, d328, d329, d330, d331, d332, d333, d334, d335, d336, d337], []⟩ w') :
    Code.wp Tryd.prog (code52 [1, 1, 1, 1, 1, 1, 1, 1, 0]) Q ⟨#[.pointer (some ⟨cf.c, 0, none⟩), .slice (some ⟨b1, o1, none⟩) n1 c1, d2, d3, .bool saw, .slice (some ⟨b5, o5, none⟩) n5 c5, d6, d7, d8, d9, d10, d11, d12, d13, d14, d15, d16, d17, d18, d19, d20, d21, d22, d23, d24, d25, d26, d27, d28, d29, d30, d31, d32, d33, d34, d35, d36, d37, d38, d39, d40, d41, d42, d43, d44, d45, d46, d47, d48, d49, d50, d51, d52, d53, d54, d55, d56, d57, d58, d59, d60, d61, d62, d63, d64, d65, d66, d67, d68, d69, d70, d71, d72, d73, d74, d75, d76, d77, d78, d79, d80, d81, d82, d83, d84, d85, d86, d87, d88, d89, d90, d91, d92, d93, d94, d95, d96, d97, d98, d99, d100, d101, d102, d103, d104, d105, d106, d107, d108, d109, d110, d111, d112, d113, d114, d115, d116, d117, d118, d119, d120, d121, d122, d123, d124, d125, d126, d127, d128, d129, d130, d131, d132, d133, d134, d135, d136, d137, d138, d139, d140, d141, d142, d143, d144, d145, d146, d147, d148, d149, d150, d151, d152, d153, d154, d155, d156, d157, d158, d159, d160, d161, d162, d163, d164, d165, d166, d167, d168, d169, d170, d171, d172, d173, d174, d175, d176, d177, d178, d179, d180, d181, d182, d183, d184, d185, d186, d187, d188, d189, d190, d191, d192, d193, d194, d195, d196, d197, d198, d199, d200, d201, d202, d203, d204, d205, d206, d207, d208, d209, d210, d211, d212, d213, d214, d215, d216, d217, d218, d219, d220, d221, d222, d223, d224, d225, d226, d227, d228, d229, d230, d231, d232, d233, d234, d235, d236, d237, d238, d239, d240, d241, d242, d243, d244, d245, d246, d247, d248, d249, d250, d251, d252, d253, d254, d255, d256, d257, d258, d259, d260, d261, d262, d263, d264, d265, d266, d267, d268, d269, d270, d271, d272, d273, d274, d275, d276, d277, d278, d279, d280, d281, d282, d283, d284, d285, d286, d287, d288, d289, d290, d291, d292, d293, d294, d295, d296, d297, d298, d299, d300, d301, d302, d303, d304, d305, d306, d307, d308, d309, d310, d311, d312, d313, d314, d315, d316, d317, d318, d319, d320, d321, d322, d323, d324, d325, d326, d327, d328, d329, d330, d331, d332, d333, d334, d335, d336, d337], []⟩ w := by
  have HK := Lib.hid hK
  have kc := fun (w : World) (C : Array Value) (n c : Nat) => Lib.run_convert_bytes_const (P := Tryd.prog) w 23 5 C n c Tryd.underlying23 Tryd.underlying5
  obtain ⟨b1', hb1⟩ : ∃ bo, bo = hasPre line tSkipPre := ⟨_, rfl⟩
  obtain ⟨b2', hb2⟩ : ∃ bo, bo = hasSuf tr tSkipSuf := ⟨_, rfl⟩
  have HA : Hid (∀ (C : Array Value) fr, C.toList = vals tSkipPre → Calls Tryd.prog 55 #[.slice (some ⟨b1, o1, none⟩) n1 c1, .slice (some ⟨w.heap.size, 0, none⟩) 5 5] (w.alloc (.cells C 5 fr)) (fun e w' => e = .returned (.bool b1') ∧ (Core cf (B :: xm) tp s w' ∧ OB cf B s w' ∧ Same610 cf.c w w'))) := by
    intro C fr hCC
    have hbel : Below w.heap.size w (w.alloc (.cells C 5 fr)) := (Below.refl _ w).alloc (Nat.le_refl _) _
    have hC2 := h.below hbel
    have h1 := hs1 _ (fun q hq => hC2.tpb hq)
    have h2 := rd_const w tSkipPre C fr hCC
    refine (hasPrefix_any h1 h2 n1 c1 5 5 hn1 rfl hc1).mono ?_
    rintro en w' ⟨rfl, rfl⟩
    exact ⟨by rw [hb1], hC2, ⟨hb.1.below hbel, hb.2⟩, (Same615.block (hbel.block _ h.lt0.2)).i⟩
  have HB : Hid (∀ (wr : World), Core cf (B :: xm) tp s wr → OB cf B s wr → Same610 cf.c w wr → ∀ (C : Array Value) fr, C.toList = vals tSkipSuf → Calls Tryd.prog 64 #[.slice (some ⟨b5, o5, none⟩) n5 c5, .slice (some ⟨wr.heap.size, 0, none⟩) 16 16] (wr.alloc (.cells C 5 fr)) (fun e w' => e = .returned (.bool b2') ∧ (Core cf (B :: xm) tp s w' ∧ OB cf B s w' ∧ Same610 cf.c w w'))) := by
    intro wr hC hO hSM C fr hCC
    have hbel : Below wr.heap.size wr (wr.alloc (.cells C 5 fr)) := (Below.refl _ wr).alloc (Nat.le_refl _) _
    have hC2 := hC.below hbel
    have h1 := hs5 _ (fun q hq => hC2.tpb hq)
    have h2 := rd_const wr tSkipSuf C fr hCC
    refine (hasSuffix_any h1 h2 n5 c5 16 16 hn5 rfl hc5 (by omega)).mono ?_
    rintro en w' ⟨rfl, rfl⟩
    exact ⟨by rw [hb2], hC2, ⟨hO.1.below hbel, hO.2⟩, hSM.trans (Same615.block (hbel.block _ hC.lt0.2)).i⟩
  have HE1 := Lib.hid hb1
  have HE2 := Lib.hid hb2
  clear hK h hb hs1 hn1 hc1 hs5 hn5 hc5 hbig5 hb1 hb2
  refine wp_nop ?_
  conv => arg 2; whnf
  cases b1' with
  | false =>
    have HU : Hid (skipF s line tr = s) := by show _ = _; unfold skipF; rw [if_neg (by rw [← HE1.out]; simp)]
    go_wp2_with fail
    refine (HA.out _ _ rfl).mono ?_
    rintro en w2 ⟨rfl, hC2, hO2, hS2⟩
    have H2 := Lib.hid (And.intro hC2 (And.intro hO2 hS2))
    clear hC2 hO2 hS2 HA HB
    go_wp2_with fail
    exact HK.out _ _ _ _ _ _ _ _ _ _ _ _ _ _ _ _ _ _ _ _ _ _ (by rw [HU.out]; exact H2.out.1) H2.out.2.2 (by rw [HU.out]; exact H2.out.2.1)
  | true =>
    cases b2' with
    | false =>
      have HU : Hid (skipF s line tr = s) := by show _ = _; unfold skipF; rw [if_neg (by rw [← HE2.out]; simp)]
      go_wp2_with fail
      refine (HA.out _ _ rfl).mono ?_
      rintro en w2 ⟨rfl, hC2, hO2, hS2⟩
      have H2 := Lib.hid (And.intro hC2 (And.intro hO2 hS2))
      clear hC2 hO2 hS2 HA
      go_wp2_with fail
      refine (HB.out w2 H2.out.1 H2.out.2.1 H2.out.2.2 _ _ rfl).mono ?_
      rintro en w3 ⟨rfl, hC3, hO3, hS3⟩
      have H3 := Lib.hid (And.intro hC3 (And.intro hO3 hS3))
      clear hC3 hO3 hS3 H2 HB
      go_wp2_with fail
      exact HK.out _ _ _ _ _ _ _ _ _ _ _ _ _ _ _ _ _ _ _ _ _ _ (by rw [HU.out]; exact H3.out.1) H3.out.2.2 (by rw [HU.out]; exact H3.out.2.1)
    | true =>
      go_wp2_with fail
      refine (HA.out _ _ rfl).mono ?_
      rintro en w2 ⟨rfl, hC2, hO2, hS2⟩
      have H2 := Lib.hid (And.intro hC2 (And.intro hO2 hS2))
      clear hC2 hO2 hS2 HA
      go_wp2_with fail
      refine (HB.out w2 H2.out.1 H2.out.2.1 H2.out.2.2 _ _ rfl).mono ?_
      rintro en w3 ⟨rfl, hC3, hO3, hS3⟩
      have hset := hC3.setResult tskip
      obtain ⟨a4, cap4, c4⟩ := hC3.rep_len
      have H3 := Lib.hid (And.intro hC3 (And.intro hO3 hS3))
      have c5 := hC3.cells 5 _ rfl
      have f5 := hC3.fr 5
      have HR := Lib.hid (And.intro hset.1 (And.intro (hO3.same hset.2 hset.1.fr (Below.heap_setCell _ _ _ _ hO3.1.ne) rfl) (hS3.trans hset.2.i)))
      clear hset hC3 hO3 hS3 H2 HB
      by_cases hz : s.report = []
      · have HU : Hid (skipF s line tr = { s with result := tskip }) := by show _ = _; unfold skipF; rw [if_pos ⟨HE1.out.symm, HE2.out.symm, hz⟩]
        have hz0 : s.report.length = 0 := by rw [hz]; rfl
        rw [hz0] at c4
        clear hz hz0
        go_wp2_with fail
        exact HK.out _ _ _ _ _ _ _ _ _ _ _ _ _ _ _ _ _ _ _ _ _ _ (by rw [HU.out]; exact HR.out.1) HR.out.2.2 (by rw [HU.out]; exact HR.out.2.1)
      · have HU : Hid (skipF s line tr = s) := by show _ = _; unfold skipF; rw [if_neg (fun hh => hz hh.2.2)]
        have hz0 : ¬ ((s.report.length : Int) = 0) := fun e => hz (List.length_eq_zero_iff.1 (by omega))
        clear hz
        go_wp2_with fail
        exact HK.out _ _ _ _ _ _ _ _ _ _ _ _ _ _ _ _ _ _ _ _ _ _ (by rw [HU.out]; exact H3.out.1) H3.out.2.2 (by rw [HU.out]; exact H3.out.2.1)

set_option maxRecDepth 100000 in
set_option maxHeartbeats 40000000 in
theorem stD {cf : Cf} {B : Nat} {xm : List Nat} {tp : List (Nat × Obj)} {s : CS} {w : World} {b1 o1 n1 c1 b5 o5 n5 c5 : Nat} {saw : Bool} {line tr : List UInt8}
    (h : Core cf (B :: xm) tp s w) (hb : OB cf B s w) (hs1 : Src tp b1 o1 line) (hn1 : n1 = line.length) (hc1 : n1 ≤ c1) (hbig1 : n1 ≤ 1000000)
    (hs5 : Src tp b5 o5 tr) (hn5 : n5 = tr.length) (hc5 : n5 ≤ c5) (hbig5 : n5 ≤ 1000000)
    (hr : pe s + s.report.length + 2 * n1 ≤ 9000000)
    (Q : Exit → Act → World → Prop) (d2 d3 d6 d7 d8 d9 d10 d11 d12 d13 d14 d15 d16 d17 d18 d19 d20 d21 d22 d23 d24 d25 d26 d27 d28 d29 d30 d31 d32 d33 d34 d35 d36 d37 d38 d39 d40 d41 d42 d43 d44 d45 d46 d47 d48 d49 d50 d51 d52 d53 d54 d55 d56 d57 d58 d59 d60 d61 d62 d63 d64 d65 d66 d67 d68 d69 d70 d71 d72 d73 d74 d75 d76 d77 d78 d79 d80 d81 d82 d83 d84 d85 d86 d87 d88 d89 d90 d91 d92 d93 d94 d95 d96 d97 d98 d99 d100 d101 d102 d103 d104 d105 d106 d107 d108 d109 d110 d111 d112 d113 d114 d115 d116 d117 d118 d119 d120 d121 d122 d123 d124 d125 d126 d127 d128 d129 d130 d131 d132 d133 d134 d135 d136 d137 d138 d139 d140 d141 d142 d143 d144 d145 d146 d147 d148 d149 d150 d151 d152 d153 d154 d155 d156 d157 d158 d159 d160 d161 d162 d163 d164 d165 d166 d167 d168 d169 d170 d171 d172 d173 d174 d175 d176 d177 d178 d179 d180 d181 d182 d183 d184 d185 d186 d187 d188 d189 d190 d191 d192 d193 d194 d195 d196 d197 d198 d199 d200 d201 d202 d203 d204 d205 d206 d207 d208 d209 d210 d211 d212 d213 d214 d215 d216 d217 d218 d219 d220 d221 d222 d223 d224 d225 d226 d227 d228 d229 d230 d231 d232 d233 d234 d235 d236 d237 d238 d239 d240 d241 d242 d243 d244 d245 d246 d247 d248 d249 d250 d251 d252 d253 d254 d255 d256 d257 d258 d259 d260 d261 d262 d263 d264 d265 d266 d267 d268 d269 d270 d271 d272 d273 d274 d275 d276 d277 d278 d279 d280 d281 d282 d283 d284 d285 d286 d287 d288 d289 d290 d291 d292 d293 d294 d295 d296 d297 d298 d299 d300 d301 d302 d303 d304 d305 d306 d307 d308 d309 d310 d311 d312 d313 d314 d315 d316 d317 d318 d319 d320 d321 d322 d323 d324 d325 d326 d327 d328 d329 d330 d331 d332 d333 d334 d335 d336 d337 : Value)
    (hK : ∀ (a : Act) (w' : World), a.defers = [] → HP cf B xm tp (lineHF (skipF s line tr) saw line) w (.returned (.tuple #[])) w' → Q .ret a w') :
    Code.wp Tryd.prog (code52 [1, 1, 1, 1, 1, 1, 1, 1]) Q ⟨#[.pointer (some ⟨cf.c, 0, none⟩), .slice (some ⟨b1, o1, none⟩) n1 c1, d2, d3, .bool saw, .slice (some ⟨b5, o5, none⟩) n5 c5, d6, d7, d8, d9, d10, d11, d12, d13, d14, d15, d16, d17, d18, d19, d20, d21, d22, d23, d24, d25, d26, d27, d28, d29, d30, d31, d32, d33, d34, d35, d36, d37, d38, d39, d40, d41, d42, d43, d44, d45, d46, d47, d48, d49, d50, d51, d52, d53, d54, d55, d56, d57, d58, d59, d60, d61, d62, d63, d64, d65, d66, d67, d68, d69, d70, d71, d72, d73, d74, d75, d76, d77, d78, d79, d80, d81, d82, d83, d84, d85, d86, d87, d88, d89, d90, d91, d92, d93, d94, d95, d96, d97, d98, d99, d100, d101, d102, d103, d104, d105, d106, d107, d108, d109, d110, d111, d112, d113, d114, d115, d116, d117, d118, d119, d120, d121, d122, d123, d124, d125, d126, d127, d128, d129, d130, d131, d132, d133, d134, d135, d136, d137, d138, d139, d140, d141, d142, d143, d144, d145, d146, d147, d148, d149, d150, d151, d152, d153, d154, d155, d156, d157, d158, d159, d160, d161, d162, d163, d164, d165, d166, d167, d168, d169, d170, d171, d172, d173, d174, d175, d176, d177, d178, d179, d180, d181, d182, d183, d184, d185, d186, d187, d188, d189, d190, d191, d192, d193, d194, d195, d196, d197, d198, d199, d200, d201, d202, d203, d204, d205, d206, d207, d208, d209, d210, d211, d212, d213, d214, d215, d216, d217, d218, d219, d220, d221, d222, d223, d224, d225, d226, d227, d228, d229, d230, d231, d232, d233, d234, d235, d236, d237, d238, d239, d240, d241, d242, d243, d244, d245, d246, d247, d248, d249, d250, d251, d252, d253, d254, d255, d256, d257, d258, d259, d260, d261, d262, d263, d264, d265, d266, d267, d268, d269, d270, d271, d272, d273, d274, d275, d276, d277, d278, d279, d280, d281, d282, d283, d284, d285, d286, d287, d288, d289, d290, d291, d292, d293, d294, d295, d296, d297, d298, d299, d300, d301, d302, d303, d304, d305, d306, d307, d308, d309, d310, d311, d312, d313, d314, d315, d316, d317, d318, d319, d320, d321, d322, d323, d324, d325, d326, d327, d328, d329, d330, d331, d332, d333, d334, d335, d336, d337], []⟩ w := by
  have HK := Lib.hid hK
  clear hK
  have HH := Lib.hid (And.intro h (And.intro hb (And.intro hs1 (And.intro hn1 (And.intro hc1 (And.intro hbig1 (And.intro hs5 (And.intro hn5 (And.intro hc5 (And.intro hbig5 hr))))))))))
  clear h hb hs1 hn1 hc1 hbig1 hs5 hn5 hc5 hbig5 hr
  refine wp_nop ?_
  conv => arg 2; whnf
  refine wp_seq_k ?_
  intro K hKK
  have HKK := Lib.hid hKK
  clear hKK
  refine skip_test HH.out.1 HH.out.2.1 HH.out.2.2.1 HH.out.2.2.2.1 HH.out.2.2.2.2.1 HH.out.2.2.2.2.2.1 HH.out.2.2.2.2.2.2.1 HH.out.2.2.2.2.2.2.2.1 HH.out.2.2.2.2.2.2.2.2.1 HH.out.2.2.2.2.2.2.2.2.2.1 _ _ _ _ _ _ _ _ _ _ _ _ _ _ _ _ _ _ _ _ _ _ _ _ _ _ _ _ _ _ _ _ _ _ _ _ _ _ _ _ _ _ _ _ _ _ _ _ _ _ _ _ _ _ _ _ _ _ _ _ _ _ _ _ _ _ _ _ _ _ _ _ _ _ _ _ _ _ _ _ _ _ _ _ _ _ _ _ _ _ _ _ _ _ _ _ _ _ _ _ _ _ _ _ _ _ _ _ _ _ _ _ _ _ _ _ _ _ _ _ _ _ _ _ _ _ _ _ _ _ _ _ _ _ _ _ _ _ _ _ _ _ _ _ _ _ _ _ _ _ _ _ _ _ _ _ _ _ _ _ _ _ _ _ _ _ _ _ _ _ _ _ _ _ _ _ _ _ _ _ _ _ _ _ _ _ _ _ _ _ _ _ _ _ _ _ _ _ _ _ _ _ _ _ _ _ _ _ _ _ _ _ _ _ _ _ _ _ _ _ _ _ _ _ _ _ _ _ _ _ _ _ _ _ _ _ _ _ _ _ _ _ _ _ _ _ _ _ _ _ _ _ _ _ _ _ _ _ _ _ _ _ _ _ _ _ _ _ _ _ _ _ _ _ _ _ _ _ _ _ _ _ _ _ _ _ _ _ _ _ _ _ _ _ _ _ _ _ _ _ _ _ _ _ _ _ _ _ _ _ _ _ _ _ _ _ _ _ _ _ _ _ _ _ _ _ _ _ _ _ _ _ _ _ _ ?_
  intro u127 u128 u129 u130 u131 u132 u133 u134 u135 u136 u137 u138 u139 u140 u141 u142 u143 u144 u145 u146 u147 w1 hC1 hSM1 hO1
  have H1 := Lib.hid (And.intro hC1 (And.intro hO1 hSM1))
  clear hC1 hSM1 hO1
  dsimp only
  refine HKK.out _ _ ?_
  go_upto_region 28 with fail
  iterate 7 go_step
  refine wp_seq_k ?_
  intro K2 hKK2
  have HK2 := Lib.hid hKK2
  clear hKK2
  refine mag_upd H1.out.1 H1.out.2.1 (HH.out.2.2.1) HH.out.2.2.2.1 HH.out.2.2.2.2.1 _ _ _ _ _ _ _ _ _ _ _ _ _ _ _ _ _ _ _ _ _ _ _ _ _ _ _ _ _ _ _ _ _ _ _ _ _ _ _ _ _ _ _ _ _ _ _ _ _ _ _ _ _ _ _ _ _ _ _ _ _ _ _ _ _ _ _ _ _ _ _ _ _ _ _ _ _ _ _ _ _ _ _ _ _ _ _ _ _ _ _ _ _ _ _ _ _ _ _ _ _ _ _ _ _ _ _ _ _ _ _ _ _ _ _ _ _ _ _ _ _ _ _ _ _ _ _ _ _ _ _ _ _ _ _ _ _ _ _ _ _ _ _ _ _ _ _ _ _ _ _ _ _ _ _ _ _ _ _ _ _ _ _ _ _ _ _ _ _ _ _ _ _ _ _ _ _ _ _ _ _ _ _ _ _ _ _ _ _ _ _ _ _ _ _ _ _ _ _ _ _ _ _ _ _ _ _ _ _ _ _ _ _ _ _ _ _ _ _ _ _ _ _ _ _ _ _ _ _ _ _ _ _ _ _ _ _ _ _ _ _ _ _ _ _ _ _ _ _ _ _ _ _ _ _ _ _ _ _ _ _ _ _ _ _ _ _ _ _ _ _ _ _ _ _ _ _ _ _ _ _ _ _ _ _ _ _ _ _ _ _ _ _ _ _ _ _ _ _ _ _ _ _ _ _ _ _ _ _ _ _ _ _ _ _ _ _ _ _ _ _ _ _ _ _ _ _ _ _ _ _ _ _ _ _ _ ?_
  intro x7 x10 x149 x150 x151 x152 x153 x154 x155 x156 x157 x158 x159 w2 hx7 hC2 hSM2 hO2
  subst hx7
  have H2 := Lib.hid (And.intro hC2 (And.intro hO2 hSM2))
  clear hC2 hSM2 hO2
  refine HK2.out _ _ ?_
  have hn1b := HH.out.2.2.2.2.2.1
  have hpe : Hid (pe (skipF s line tr) + (skipF s line tr).report.length + 2 * n1 ≤ 9000000) := by show _ ≤ _; rw [skipF_pe, skipF_rep]; exact HH.out.2.2.2.2.2.2.2.2.2.2
  obtain ⟨bo, hbo⟩ : ∃ bo, bo = anyPre line tUpd := ⟨_, rfl⟩
  rw [← hbo]
  have HBO := Lib.hid hbo
  clear hbo
  cases bo with
  | true =>
    refine stEy H2.out.1 H2.out.2.1 HH.out.2.2.1 HH.out.2.2.2.1 HH.out.2.2.2.2.1 HH.out.2.2.2.2.2.1 hpe.out HBO.out.symm _ _ _ _ _ _ _ _ _ _ _ _ _ _ _ _ _ _ _ _ _ _ _ _ _ _ _ _ _ _ _ _ _ _ _ _ _ _ _ _ _ _ _ _ _ _ _ _ _ _ _ _ _ _ _ _ _ _ _ _ _ _ _ _ _ _ _ _ _ _ _ _ _ _ _ _ _ _ _ _ _ _ _ _ _ _ _ _ _ _ _ _ _ _ _ _ _ _ _ _ _ _ _ _ _ _ _ _ _ _ _ _ _ _ _ _ _ _ _ _ _ _ _ _ _ _ _ _ _ _ _ _ _ _ _ _ _ _ _ _ _ _ _ _ _ _ _ _ _ _ _ _ _ _ _ _ _ _ _ _ _ _ _ _ _ _ _ _ _ _ _ _ _ _ _ _ _ _ _ _ _ _ _ _ _ _ _ _ _ _ _ _ _ _ _ _ _ _ _ _ _ _ _ _ _ _ _ _ _ _ _ _ _ _ _ _ _ _ _ _ _ _ _ _ _ _ _ _ _ _ _ _ _ _ _ _ _ _ _ _ _ _ _ _ _ _ _ _ _ _ _ _ _ _ _ _ _ _ _ _ _ _ _ _ _ _ _ _ _ _ _ _ _ _ _ _ _ _ _ _ _ _ _ _ _ _ _ _ _ _ _ _ _ _ _ _ _ _ _ _ _ _ _ _ _ _ _ _ _ _ _ _ _ _ _ _ _ _ _ _ _ _ _ _ _ _ _ _ _ _ _ _ _ ?_
    intro a w' ha hp
    exact HK.out a w' ha ⟨hp.1, hp.2.1, (H1.out.2.2.trans H2.out.2.2).trans hp.2.2.1, hp.2.2.2⟩
  | false =>
    refine stEn H2.out.1 H2.out.2.1 HH.out.2.2.1 HH.out.2.2.2.1 HH.out.2.2.2.2.1 HH.out.2.2.2.2.2.1 hpe.out HBO.out.symm _ _ _ _ _ _ _ _ _ _ _ _ _ _ _ _ _ _ _ _ _ _ _ _ _ _ _ _ _ _ _ _ _ _ _ _ _ _ _ _ _ _ _ _ _ _ _ _ _ _ _ _ _ _ _ _ _ _ _ _ _ _ _ _ _ _ _ _ _ _ _ _ _ _ _ _ _ _ _ _ _ _ _ _ _ _ _ _ _ _ _ _ _ _ _ _ _ _ _ _ _ _ _ _ _ _ _ _ _ _ _ _ _ _ _ _ _ _ _ _ _ _ _ _ _ _ _ _ _ _ _ _ _ _ _ _ _ _ _ _ _ _ _ _ _ _ _ _ _ _ _ _ _ _ _ _ _ _ _ _ _ _ _ _ _ _ _ _ _ _ _ _ _ _ _ _ _ _ _ _ _ _ _ _ _ _ _ _ _ _ _ _ _ _ _ _ _ _ _ _ _ _ _ _ _ _ _ _ _ _ _ _ _ _ _ _ _ _ _ _ _ _ _ _ _ _ _ _ _ _ _ _ _ _ _ _ _ _ _ _ _ _ _ _ _ _ _ _ _ _ _ _ _ _ _ _ _ _ _ _ _ _ _ _ _ _ _ _ _ _ _ _ _ _ _ _ _ _ _ _ _ _ _ _ _ _ _ _ _ _ _ _ _ _ _ _ _ _ _ _ _ _ _ _ _ _ _ _ _ _ _ _ _ _ _ _ _ _ _ _ _ _ _ _ _ _ _ _ _ _ _ _ _ ?_
    intro a w' ha hp
    exact HK.out a w' ha ⟨hp.1, hp.2.1, (H1.out.2.2.trans H2.out.2.2).trans hp.2.2.1, hp.2.2.2⟩

end Go.Proofs.YtdljobmhnnegiaaDoor

/- handleInputLine: the two lines that end all. -/
namespace Go.Proofs.YtdljobmhnnegiaaDoor
open Go.RowKit

/-- The lines that end all. -/
def bigF (s : CS) (saw : Bool) (line tr : List UInt8) : CS := { frameF { flushRep s 0 with mFraming := saw } line with result := if tr = tPASS then tpass else tfail }

set_option maxRecDepth 100000 in
set_option maxHeartbeats 40000000 in
theorem stBy {cf : Cf} {B : Nat} {xm : List Nat} {tp : List (Nat × Obj)} {s : CS} {w : World} {b1 o1 n1 c1 b5 o5 n5 c5 : Nat} {saw : Bool} {line tr : List UInt8}
    (h : Core cf (B :: xm) tp s w) (hb : OB cf B s w) (hs1 : Src tp b1 o1 line) (hn1 : n1 = line.length) (hc1 : n1 ≤ c1) (hbig1 : n1 ≤ 1000000)
    (hs5 : Src tp b5 o5 tr) (hn5 : n5 = tr.length) (_hc5 : n5 ≤ c5) (_hbig5 : n5 ≤ 1000000)
    (hr : pe s + s.report.length + 2 * n1 ≤ 9000000)
    (Q : Exit → Act → World → Prop) (d2 d3 d6 d7 d8 d9 d10 d11 d12 d13 d14 d15 d16 d17 d18 d19 d20 d21 d22 d23 d24 d25 d26 d27 d28 d29 d30 d31 d32 d33 d34 d35 d36 d37 d38 d39 d40 d41 d42 d43 d44 d45 d46 d47 d48 d49 d50 d51 d52 d53 d54 d55 d56 d57 d58 d59 d60 d61 d62 d63 d64 d65 d66 d67 d68 d69 d70 d71 d72 d73 d74 d75 d76 d77 d78 d79 d80 d81 d82 d83 d84 d85 d86 d87 d88 d89 d90 d91 d92 d93 d94 d95 d96 d97 d98 d99 d100 d101 d102 d103 d104 d105 d106 d107 d108 d109 d110 d111 d112 d113 d114 d115 d116 d117 d118 d119 d120 d121 d122 d123 d124 d125 d126 d127 d128 d129 d130 d131 d132 d133 d134 d135 d136 d137 d138 d139 d140 d141 d142 d143 d144 d145 d146 d147 d148 d149 d150 d151 d152 d153 d154 d155 d156 d157 d158 d159 d160 d161 d162 d163 d164 d165 d166 d167 d168 d169 d170 d171 d172 d173 d174 d175 d176 d177 d178 d179 d180 d181 d182 d183 d184 d185 d186 d187 d188 d189 d190 d191 d192 d193 d194 d195 d196 d197 d198 d199 d200 d201 d202 d203 d204 d205 d206 d207 d208 d209 d210 d211 d212 d213 d214 d215 d216 d217 d218 d219 d220 d221 d222 d223 d224 d225 d226 d227 d228 d229 d230 d231 d232 d233 d234 d235 d236 d237 d238 d239 d240 d241 d242 d243 d244 d245 d246 d247 d248 d249 d250 d251 d252 d253 d254 d255 d256 d257 d258 d259 d260 d261 d262 d263 d264 d265 d266 d267 d268 d269 d270 d271 d272 d273 d274 d275 d276 d277 d278 d279 d280 d281 d282 d283 d284 d285 d286 d287 d288 d289 d290 d291 d292 d293 d294 d295 d296 d297 d298 d299 d300 d301 d302 d303 d304 d305 d306 d307 d308 d309 d310 d311 d312 d313 d314 d315 d316 d317 d318 d319 d320 d321 d322 d323 d324 d325 d326 d327 d328 d329 d330 d331 d332 d333 d334 d335 d336 d337 : Value)
    (hK : ∀ (a : Act) (w' : World), a.defers = [] → HP cf B xm tp (bigF s saw line tr) w (.returned (.tuple #[])) w' → Q .ret a w') :
    Code.wp Tryd.prog (code52 [1, 1, 1, 1, 1, 1, 1, 0, 1, 0]) Q ⟨#[.pointer (some ⟨cf.c, 0, none⟩), .slice (some ⟨b1, o1, none⟩) n1 c1, d2, d3, .bool saw, .slice (some ⟨b5, o5, none⟩) n5 c5, d6, d7, d8, d9, d10, d11, d12, d13, d14, d15, d16, d17, d18, d19, d20, d21, d22, d23, d24, d25, d26, d27, d28, d29, d30, d31, d32, d33, d34, d35, d36, d37, d38, d39, d40, d41, d42, d43, d44, d45, d46, d47, d48, d49, d50, d51, d52, d53, d54, d55, d56, d57, d58, d59, d60, d61, d62, d63, d64, d65, d66, d67, d68, d69, d70, d71, d72, d73, d74, d75, d76, d77, d78, d79, d80, d81, d82, d83, d84, d85, d86, d87, d88, d89, d90, d91, d92, d93, d94, d95, d96, d97, d98, d99, d100, d101, d102, d103, d104, d105, d106, d107, d108, d109, d110, d111, d112, d113, d114, d115, d116, d117, d118, d119, d120, d121, d122, d123, d124, d125, d126, d127, d128, d129, d130, d131, d132, d133, d134, d135, d136, d137, d138, d139, d140, d141, d142, d143, d144, d145, d146, d147, d148, d149, d150, d151, d152, d153, d154, d155, d156, d157, d158, d159, d160, d161, d162, d163, d164, d165, d166, d167, d168, d169, d170, d171, d172, d173, d174, d175, d176, d177, d178, d179, d180, d181, d182, d183, d184, d185, d186, d187, d188, d189, d190, d191, d192, d193, d194, d195, d196, d197, d198, d199, d200, d201, d202, d203, d204, d205, d206, d207, d208, d209, d210, d211, d212, d213, d214, d215, d216, d217, d218, d219, d220, d221, d222, d223, d224, d225, d226, d227, d228, d229, d230, d231, d232, d233, d234, d235, d236, d237, d238, d239, d240, d241, d242, d243, d244, d245, d246, d247, d248, d249, d250, d251, d252, d253, d254, d255, d256, d257, d258, d259, d260, d261, d262, d263, d264, d265, d266, d267, d268, d269, d270, d271, d272, d273, d274, d275, d276, d277, d278, d279, d280, d281, d282, d283, d284, d285, d286, d287, d288, d289, d290, d291, d292, d293, d294, d295, d296, d297, d298, d299, d300, d301, d302, d303, d304, d305, d306, d307, d308, d309, d310, d311, d312, d313, d314, d315, d316, d317, d318, d319, d320, d321, d322, d323, d324, d325, d326, d327, d328, d329, d330, d331, d332, d333, d334, d335, d336, d337], []⟩ w := by
  have HK := Lib.hid hK
  clear hK
  unfold pe at hr
  have hfl := flushRepO h hb 0 (by omega) (by omega) (by omega)
  have HF := Lib.hid hfl
  obtain ⟨s1, hs1e⟩ : ∃ s1, s1 = flushRep s 0 := ⟨_, rfl⟩
  rw [← hs1e] at HF
  have hs1p : pe s1 ≤ 9000000 ∧ 2 * n1 + pe s1 ≤ 9000000 ∧ s1.name = [] := by
    rw [hs1e]
    unfold flushRep pe
    simp
    omega
  have HS1P := Lib.hid hs1p
  have HU : Hid (∀ s2, s2 = frameF { s1 with mFraming := saw } line → bigF s saw line tr = { s2 with result := if tr = tPASS then tpass else tfail }) := by
    intro s2 e
    rw [e]
    unfold bigF
    rw [hs1e]
  have HH := Lib.hid (And.intro hs1 (And.intro hn1 (And.intro hc1 (And.intro hbig1 (And.intro hs5 hn5)))))
  clear h hb hs1 hn1 hc1 hbig1 hs5 hn5 hr hfl hs1e hs1p
  refine wp_nop ?_
  conv => arg 2; whnf
  go_wp2_with fail
  refine HF.out.mono ?_
  rintro en w1 ⟨rfl, hC1, hS1, hO1⟩
  have hn := hC1.setName []
  have hnO := hO1.same hn.2 hn.1.fr (Below.heap_setCell _ _ _ _ hO1.1.ne) rfl
  have hns : ({ s1 with name := [] } : CS) = s1 := by
    have := HS1P.out.2.2
    cases s1
    simp only at this
    rw [this]
  have hn1' := (congrArg (fun z => Core cf (B :: xm) tp z (w1.setCell ⟨cf.c, 3, none⟩ (.string (S [])))) hns).mp hn.1
  have hnO' := (congrArg (fun z => OB cf B z (w1.setCell ⟨cf.c, 3, none⟩ (.string (S [])))) hns).mp hnO
  have hm := Core.setMF (s := s1) hn1' saw
  have hmO : OB cf B { s1 with mFraming := saw } _ := OB.same (s := s1) hnO' hm.2 hm.1.fr (Below.heap_setCell _ _ _ _ hnO.1.ne) rfl
  have hfr := frame_any hm.1 hmO HH.out.1 n1 c1 HH.out.2.1 HH.out.2.2.1 HH.out.2.2.2.1 (by have := HS1P.out.1; unfold pe at this ⊢; dsimp only; omega)
  have HFR := Lib.hid hfr
  have HSS := Lib.hid ((hS1.trans hn.2.i).trans hm.2.i)
  have c3 := hC1.cells 3 _ rfl
  have f3 := hC1.fr 3
  have c16 := hn.1.cells 16 _ rfl
  have f16 := hn.1.fr 16
  clear hC1 hS1 hO1 hn hnO hns hm hmO hfr hn1' hnO'
  go_wp2_with fail
  refine HFR.out.mono ?_
  rintro en w2 ⟨rfl, hC2, hS2, hO2, hpe2⟩
  have hcv := conv_str (HH.out.2.2.2.2.1 w2 (fun q hq => hC2.tpb hq)) n5 c5 HH.out.2.2.2.2.2
  obtain ⟨s2, hs2⟩ : ∃ s2, s2 = frameF { s1 with mFraming := saw } line := ⟨_, rfl⟩
  rw [← hs2] at hC2 hO2
  have HU2 := Lib.hid (HU.out s2 hs2)
  obtain ⟨aP, haP⟩ : ∃ b, b = decide (tr = tPASS) := ⟨_, rfl⟩
  have tP : ((S tr).data.toList == [80, 65, 83, 83]) = aP := by rw [haP]; exact S_beq_dec tr tPASS
  have HAP := Lib.hid haP
  have c5r := hC2.cells 5 _ rfl
  have f5r := hC2.fr 5
  have HN : Hid (∀ x, Core cf (B :: xm) tp { s2 with result := x } (w2.setCell ⟨cf.c, 5, none⟩ (.string (S x))) ∧ Same610 cf.c w (w2.setCell ⟨cf.c, 5, none⟩ (.string (S x))) ∧ OB cf B { s2 with result := x } (w2.setCell ⟨cf.c, 5, none⟩ (.string (S x)))) := fun x =>
    ⟨(hC2.setResult x).1, (HSS.out.trans hS2).trans (hC2.setResult x).2.i, hO2.same (hC2.setResult x).2 (hC2.setResult x).1.fr (Below.heap_setCell _ _ _ _ hO2.1.ne) rfl⟩
  clear hC2 hS2 hO2 hpe2 hs2 haP c3 f3 c16 f16
  cases aP with
  | true =>
    have HT : Hid ((if tr = tPASS then tpass else tfail) = tpass) := if_pos (of_decide_eq_true HAP.out.symm)
    go_wp2_with fail
    refine HK.out _ _ rfl ?_
    rw [HU2.out, HT.out]
    exact ⟨rfl, (HN.out tpass).1, (HN.out tpass).2.1, (HN.out tpass).2.2⟩
  | false =>
    have HT : Hid ((if tr = tPASS then tpass else tfail) = tfail) := if_neg (of_decide_eq_false HAP.out.symm)
    go_wp2_with fail
    refine HK.out _ _ rfl ?_
    rw [HU2.out, HT.out]
    exact ⟨rfl, (HN.out tfail).1, (HN.out tfail).2.1, (HN.out tfail).2.2⟩

set_option maxRecDepth 100000 in
set_option maxHeartbeats 40000000 in
theorem stB {cf : Cf} {B : Nat} {xm : List Nat} {tp : List (Nat × Obj)} {s : CS} {w : World} {b1 o1 n1 c1 b5 o5 n5 c5 : Nat} {saw : Bool} {line tr : List UInt8}
    (h : Core cf (B :: xm) tp s w) (hb : OB cf B s w) (hs1 : Src tp b1 o1 line) (hn1 : n1 = line.length) (hc1 : n1 ≤ c1) (hbig1 : n1 ≤ 1000000)
    (hs5 : Src tp b5 o5 tr) (hn5 : n5 = tr.length) (hc5 : n5 ≤ c5) (hbig5 : n5 ≤ 1000000)
    (hr : pe s + s.report.length + 2 * n1 ≤ 9000000)
    (Q : Exit → Act → World → Prop) (d2 d3 d6 d7 d8 d9 d10 d11 d12 d13 d14 d15 d16 d17 d18 d19 d20 d21 d22 d23 d24 d25 d26 d27 d28 d29 d30 d31 d32 d33 d34 d35 d36 d37 d38 d39 d40 d41 d42 d43 d44 d45 d46 d47 d48 d49 d50 d51 d52 d53 d54 d55 d56 d57 d58 d59 d60 d61 d62 d63 d64 d65 d66 d67 d68 d69 d70 d71 d72 d73 d74 d75 d76 d77 d78 d79 d80 d81 d82 d83 d84 d85 d86 d87 d88 d89 d90 d91 d92 d93 d94 d95 d96 d97 d98 d99 d100 d101 d102 d103 d104 d105 d106 d107 d108 d109 d110 d111 d112 d113 d114 d115 d116 d117 d118 d119 d120 d121 d122 d123 d124 d125 d126 d127 d128 d129 d130 d131 d132 d133 d134 d135 d136 d137 d138 d139 d140 d141 d142 d143 d144 d145 d146 d147 d148 d149 d150 d151 d152 d153 d154 d155 d156 d157 d158 d159 d160 d161 d162 d163 d164 d165 d166 d167 d168 d169 d170 d171 d172 d173 d174 d175 d176 d177 d178 d179 d180 d181 d182 d183 d184 d185 d186 d187 d188 d189 d190 d191 d192 d193 d194 d195 d196 d197 d198 d199 d200 d201 d202 d203 d204 d205 d206 d207 d208 d209 d210 d211 d212 d213 d214 d215 d216 d217 d218 d219 d220 d221 d222 d223 d224 d225 d226 d227 d228 d229 d230 d231 d232 d233 d234 d235 d236 d237 d238 d239 d240 d241 d242 d243 d244 d245 d246 d247 d248 d249 d250 d251 d252 d253 d254 d255 d256 d257 d258 d259 d260 d261 d262 d263 d264 d265 d266 d267 d268 d269 d270 d271 d272 d273 d274 d275 d276 d277 d278 d279 d280 d281 d282 d283 d284 d285 d286 d287 d288 d289 d290 d291 d292 d293 d294 d295 d296 d297 d298 d299 d300 d301 d302 d303 d304 d305 d306 d307 d308 d309 d310 d311 d312 d313 d314 d315 d316 d317 d318 d319 d320 d321 d322 d323 d324 d325 d326 d327 d328 d329 d330 d331 d332 d333 d334 d335 d336 d337 : Value)
    (hK : ∀ (a : Act) (w' : World), a.defers = [] → HP cf B xm tp (if tr = tPASS ∨ tr = tFAIL ∨ hasPre tr tFAILt = true then bigF s saw line tr else lineHF (skipF s line tr) saw line) w (.returned (.tuple #[])) w' → Q .ret a w') :
    Code.wp Tryd.prog (code52 [1, 1, 1, 1, 1, 1, 1]) Q ⟨#[.pointer (some ⟨cf.c, 0, none⟩), .slice (some ⟨b1, o1, none⟩) n1 c1, d2, d3, .bool saw, .slice (some ⟨b5, o5, none⟩) n5 c5, d6, d7, d8, d9, d10, d11, d12, d13, d14, d15, d16, d17, d18, d19, d20, d21, d22, d23, d24, d25, d26, d27, d28, d29, d30, d31, d32, d33, d34, d35, d36, d37, d38, d39, d40, d41, d42, d43, d44, d45, d46, d47, d48, d49, d50, d51, d52, d53, d54, d55, d56, d57, d58, d59, d60, d61, d62, d63, d64, d65, d66, d67, d68, d69, d70, d71, d72, d73, d74, d75, d76, d77, d78, d79, d80, d81, d82, d83, d84, d85, d86, d87, d88, d89, d90, d91, d92, d93, d94, d95, d96, d97, d98, d99, d100, d101, d102, d103, d104, d105, d106, d107, d108, d109, d110, d111, d112, d113, d114, d115, d116, d117, d118, d119, d120, d121, d122, d123, d124, d125, d126, d127, d128, d129, d130, d131, d132, d133, d134, d135, d136, d137, d138, d139, d140, d141, d142, d143, d144, d145, d146, d147, d148, d149, d150, d151, d152, d153, d154, d155, d156, d157, d158, d159, d160, d161, d162, d163, d164, d165, d166, d167, d168, d169, d170, d171, d172, d173, d174, d175, d176, d177, d178, d179, d180, d181, d182, d183, d184, d185, d186, d187, d188, d189, d190, d191, d192, d193, d194, d195, d196, d197, d198, d199, d200, d201, d202, d203, d204, d205, d206, d207, d208, d209, d210, d211, d212, d213, d214, d215, d216, d217, d218, d219, d220, d221, d222, d223, d224, d225, d226, d227, d228, d229, d230, d231, d232, d233, d234, d235, d236, d237, d238, d239, d240, d241, d242, d243, d244, d245, d246, d247, d248, d249, d250, d251, d252, d253, d254, d255, d256, d257, d258, d259, d260, d261, d262, d263, d264, d265, d266, d267, d268, d269, d270, d271, d272, d273, d274, d275, d276, d277, d278, d279, d280, d281, d282, d283, d284, d285, d286, d287, d288, d289, d290, d291, d292, d293, d294, d295, d296, d297, d298, d299, d300, d301, d302, d303, d304, d305, d306, d307, d308, d309, d310, d311, d312, d313, d314, d315, d316, d317, d318, d319, d320, d321, d322, d323, d324, d325, d326, d327, d328, d329, d330, d331, d332, d333, d334, d335, d336, d337], []⟩ w := by
  have HK := Lib.hid hK
  clear hK
  have HY := Lib.hid (fun Q => @stBy cf B xm tp s w b1 o1 n1 c1 b5 o5 n5 c5 saw line tr h hb hs1 hn1 hc1 hbig1 hs5 hn5 hc5 hbig5 hr Q)
  have HNO := Lib.hid (fun (wx : World) (hx : Core cf (B :: xm) tp s wx) (hy : OB cf B s wx) Q => @stD cf B xm tp s wx b1 o1 n1 c1 b5 o5 n5 c5 saw line tr hx hy hs1 hn1 hc1 hbig1 hs5 hn5 hc5 hbig5 hr Q)
  have hcv := conv_str (hs5 w (fun q hq => h.tpb hq)) n5 c5 hn5
  have kc := fun (w : World) (C : Array Value) (n c : Nat) => Lib.run_convert_bytes_const (P := Tryd.prog) w 23 5 C n c Tryd.underlying23 Tryd.underlying5
  obtain ⟨aP, haP⟩ : ∃ b, b = decide (tr = tPASS) := ⟨_, rfl⟩
  have tP : ((S tr).data.toList == [80, 65, 83, 83]) = aP := by rw [haP]; exact S_beq_dec tr tPASS
  obtain ⟨aF, haF⟩ : ∃ b, b = decide (tr = tFAIL) := ⟨_, rfl⟩
  have tF : ((S tr).data.toList == [70, 65, 73, 76]) = aF := by rw [haF]; exact S_beq_dec tr tFAIL
  obtain ⟨aG, haG⟩ : ∃ b, b = hasPre tr tFAILt := ⟨_, rfl⟩
  have HB : Hid (∀ (C : Array Value) fr, C.toList = vals tFAILt → Calls Tryd.prog 55 #[.slice (some ⟨b5, o5, none⟩) n5 c5, .slice (some ⟨w.heap.size, 0, none⟩) 5 5] (w.alloc (.cells C 5 fr)) (fun e w' => e = .returned (.bool aG) ∧ (Core cf (B :: xm) tp s w' ∧ OB cf B s w' ∧ Same610 cf.c w w'))) := by
    intro C fr hCC
    have hbel : Below w.heap.size w (w.alloc (.cells C 5 fr)) := (Below.refl _ w).alloc (Nat.le_refl _) _
    have hC2 := h.below hbel
    have h1 := hs5 _ (fun q hq => hC2.tpb hq)
    have h2 := rd_const w tFAILt C fr hCC
    refine (hasPrefix_any h1 h2 n5 c5 5 5 hn5 rfl hc5).mono ?_
    rintro en w' ⟨rfl, rfl⟩
    exact ⟨by rw [haG], hC2, ⟨hb.1.below hbel, hb.2⟩, (Same615.block (hbel.block _ h.lt0.2)).i⟩
  have HYW := Lib.hid (fun (wx : World) (hx : Core cf (B :: xm) tp s wx) (hy : OB cf B s wx) Q => @stBy cf B xm tp s wx b1 o1 n1 c1 b5 o5 n5 c5 saw line tr hx hy hs1 hn1 hc1 hbig1 hs5 hn5 hc5 hbig5 hr Q)
  have HAP := Lib.hid haP
  have HAF := Lib.hid haF
  have HAG := Lib.hid haG
  obtain ⟨sB, hsB⟩ : ∃ sB, sB = if tr = tPASS ∨ tr = tFAIL ∨ hasPre tr tFAILt = true then bigF s saw line tr else lineHF (skipF s line tr) saw line := ⟨_, rfl⟩
  rw [← hsB] at HK
  have HSB := Lib.hid hsB
  clear h hb hs1 hn1 hc1 hbig1 hs5 hn5 hc5 hbig5 hr haP haF haG hsB
  refine wp_nop ?_
  conv => arg 2; whnf
  refine wp_seq_k ?_
  intro K hKK
  have HKK := Lib.hid hKK
  clear hKK
  cases aP with
  | true =>
    have HE : Hid (sB = bigF s saw line tr) := by show _ = _; rw [HSB.out, if_pos (.inl (of_decide_eq_true HAP.out.symm))]
    go_upto_if 105 with fail
    go_step
    refine HY.out _ _ _ _ _ _ _ _ _ _ _ _ _ _ _ _ _ _ _ _ _ _ _ _ _ _ _ _ _ _ _ _ _ _ _ _ _ _ _ _ _ _ _ _ _ _ _ _ _ _ _ _ _ _ _ _ _ _ _ _ _ _ _ _ _ _ _ _ _ _ _ _ _ _ _ _ _ _ _ _ _ _ _ _ _ _ _ _ _ _ _ _ _ _ _ _ _ _ _ _ _ _ _ _ _ _ _ _ _ _ _ _ _ _ _ _ _ _ _ _ _ _ _ _ _ _ _ _ _ _ _ _ _ _ _ _ _ _ _ _ _ _ _ _ _ _ _ _ _ _ _ _ _ _ _ _ _ _ _ _ _ _ _ _ _ _ _ _ _ _ _ _ _ _ _ _ _ _ _ _ _ _ _ _ _ _ _ _ _ _ _ _ _ _ _ _ _ _ _ _ _ _ _ _ _ _ _ _ _ _ _ _ _ _ _ _ _ _ _ _ _ _ _ _ _ _ _ _ _ _ _ _ _ _ _ _ _ _ _ _ _ _ _ _ _ _ _ _ _ _ _ _ _ _ _ _ _ _ _ _ _ _ _ _ _ _ _ _ _ _ _ _ _ _ _ _ _ _ _ _ _ _ _ _ _ _ _ _ _ _ _ _ _ _ _ _ _ _ _ _ _ _ _ _ _ _ _ _ _ _ _ _ _ _ _ _ _ _ _ _ _ _ _ _ _ _ _ _ _ _ _ _ _ _ _ ?_
    intro a w' ha hp
    exact HK.out a w' ha (by rw [HE.out]; exact hp)
  | false =>
  cases aF with
  | true =>
    have HE : Hid (sB = bigF s saw line tr) := by show _ = _; rw [HSB.out, if_pos (.inr (.inl (of_decide_eq_true HAF.out.symm)))]
    go_upto_if 105 with fail
    go_step
    refine HY.out _ _ _ _ _ _ _ _ _ _ _ _ _ _ _ _ _ _ _ _ _ _ _ _ _ _ _ _ _ _ _ _ _ _ _ _ _ _ _ _ _ _ _ _ _ _ _ _ _ _ _ _ _ _ _ _ _ _ _ _ _ _ _ _ _ _ _ _ _ _ _ _ _ _ _ _ _ _ _ _ _ _ _ _ _ _ _ _ _ _ _ _ _ _ _ _ _ _ _ _ _ _ _ _ _ _ _ _ _ _ _ _ _ _ _ _ _ _ _ _ _ _ _ _ _ _ _ _ _ _ _ _ _ _ _ _ _ _ _ _ _ _ _ _ _ _ _ _ _ _ _ _ _ _ _ _ _ _ _ _ _ _ _ _ _ _ _ _ _ _ _ _ _ _ _ _ _ _ _ _ _ _ _ _ _ _ _ _ _ _ _ _ _ _ _ _ _ _ _ _ _ _ _ _ _ _ _ _ _ _ _ _ _ _ _ _ _ _ _ _ _ _ _ _ _ _ _ _ _ _ _ _ _ _ _ _ _ _ _ _ _ _ _ _ _ _ _ _ _ _ _ _ _ _ _ _ _ _ _ _ _ _ _ _ _ _ _ _ _ _ _ _ _ _ _ _ _ _ _ _ _ _ _ _ _ _ _ _ _ _ _ _ _ _ _ _ _ _ _ _ _ _ _ _ _ _ _ _ _ _ _ _ _ _ _ _ _ _ _ _ _ _ _ _ _ _ _ _ _ _ _ _ _ _ _ ?_
    intro a w' ha hp
    exact HK.out a w' ha (by rw [HE.out]; exact hp)
  | false =>
  cases aG with
  | true =>
    have HE : Hid (sB = bigF s saw line tr) := by show _ = _; rw [HSB.out, if_pos (.inr (.inr HAG.out.symm))]
    go_wp2_with fail
    refine (HB.out _ _ rfl).mono ?_
    rintro en w2 ⟨rfl, hC2, hO2, hS2⟩
    have H2 := Lib.hid (And.intro hC2 (And.intro hO2 hS2))
    clear hC2 hO2 hS2
    dsimp only
    go_upto_if 105 with fail
    go_step
    refine HYW.out w2 H2.out.1 H2.out.2.1 _ _ _ _ _ _ _ _ _ _ _ _ _ _ _ _ _ _ _ _ _ _ _ _ _ _ _ _ _ _ _ _ _ _ _ _ _ _ _ _ _ _ _ _ _ _ _ _ _ _ _ _ _ _ _ _ _ _ _ _ _ _ _ _ _ _ _ _ _ _ _ _ _ _ _ _ _ _ _ _ _ _ _ _ _ _ _ _ _ _ _ _ _ _ _ _ _ _ _ _ _ _ _ _ _ _ _ _ _ _ _ _ _ _ _ _ _ _ _ _ _ _ _ _ _ _ _ _ _ _ _ _ _ _ _ _ _ _ _ _ _ _ _ _ _ _ _ _ _ _ _ _ _ _ _ _ _ _ _ _ _ _ _ _ _ _ _ _ _ _ _ _ _ _ _ _ _ _ _ _ _ _ _ _ _ _ _ _ _ _ _ _ _ _ _ _ _ _ _ _ _ _ _ _ _ _ _ _ _ _ _ _ _ _ _ _ _ _ _ _ _ _ _ _ _ _ _ _ _ _ _ _ _ _ _ _ _ _ _ _ _ _ _ _ _ _ _ _ _ _ _ _ _ _ _ _ _ _ _ _ _ _ _ _ _ _ _ _ _ _ _ _ _ _ _ _ _ _ _ _ _ _ _ _ _ _ _ _ _ _ _ _ _ _ _ _ _ _ _ _ _ _ _ _ _ _ _ _ _ _ _ _ _ _ _ _ _ _ _ _ _ _ _ _ _ _ _ _ _ _ _ _ _ _ _ ?_
    intro a w' ha hp
    exact HK.out a w' ha (by rw [HE.out]; exact ⟨hp.1, hp.2.1, H2.out.2.2.trans hp.2.2.1, hp.2.2.2⟩)
  | false =>
    have HE : Hid (sB = lineHF (skipF s line tr) saw line) := by
      show _ = _
      rw [HSB.out, if_neg]
      rintro (e | e | e)
      · exact of_decide_eq_false HAP.out.symm e
      · exact of_decide_eq_false HAF.out.symm e
      · rw [← HAG.out] at e; cases e
    go_wp2_with fail
    refine (HB.out _ _ rfl).mono ?_
    rintro en w2 ⟨rfl, hC2, hO2, hS2⟩
    have H2 := Lib.hid (And.intro hC2 (And.intro hO2 hS2))
    clear hC2 hO2 hS2
    dsimp only
    go_wp2_with fail
    refine HKK.out _ _ ?_
    refine HNO.out w2 H2.out.1 H2.out.2.1 _ _ _ _ _ _ _ _ _ _ _ _ _ _ _ _ _ _ _ _ _ _ _ _ _ _ _ _ _ _ _ _ _ _ _ _ _ _ _ _ _ _ _ _ _ _ _ _ _ _ _ _ _ _ _ _ _ _ _ _ _ _ _ _ _ _ _ _ _ _ _ _ _ _ _ _ _ _ _ _ _ _ _ _ _ _ _ _ _ _ _ _ _ _ _ _ _ _ _ _ _ _ _ _ _ _ _ _ _ _ _ _ _ _ _ _ _ _ _ _ _ _ _ _ _ _ _ _ _ _ _ _ _ _ _ _ _ _ _ _ _ _ _ _ _ _ _ _ _ _ _ _ _ _ _ _ _ _ _ _ _ _ _ _ _ _ _ _ _ _ _ _ _ _ _ _ _ _ _ _ _ _ _ _ _ _ _ _ _ _ _ _ _ _ _ _ _ _ _ _ _ _ _ _ _ _ _ _ _ _ _ _ _ _ _ _ _ _ _ _ _ _ _ _ _ _ _ _ _ _ _ _ _ _ _ _ _ _ _ _ _ _ _ _ _ _ _ _ _ _ _ _ _ _ _ _ _ _ _ _ _ _ _ _ _ _ _ _ _ _ _ _ _ _ _ _ _ _ _ _ _ _ _ _ _ _ _ _ _ _ _ _ _ _ _ _ _ _ _ _ _ _ _ _ _ _ _ _ _ _ _ _ _ _ _ _ _ _ _ _ _ _ _ _ _ _ _ _ _ _ _ _ _ _ _ ?_
    intro a w' ha hp
    exact HK.out a w' ha (by rw [HE.out]; exact ⟨hp.1, hp.2.1, H2.out.2.2.trans hp.2.2.1, hp.2.2.2⟩)

end Go.Proofs.YtdljobmhnnegiaaDoor

/- handleInputLine: a line without its end. -/
namespace Go.Proofs.YtdljobmhnnegiaaDoor
open Go.RowKit

theorem slice_to (w : World) (B off N cap i : Nat) (h1 : i ≤ N) (h2 : N ≤ cap) :
    (Instr.slice 23 (.slice (some ⟨B, off, none⟩) N cap) none (some (.int .i64 i)) none).run Tryd.prog w = .ok (.slice (some ⟨B, off, none⟩) i cap) w := by
  have k1 : (0 : Int) ≤ (i : Int) := by omega
  have k2 : (i : Int) ≤ (cap : Int) := by omega
  by_cases h : cap = 0
  · simp [go_sem, h, k1, sliced]; omega
  · simp [go_sem, h, k1, k2, sliced]
theorem last_some {l : List UInt8} (h : 0 < l.length) (c : UInt8) : l.getLast? = some c ↔ (l.getD (l.length - 1) 0).toNat = c.toNat := by
  rw [List.getLast?_eq_getElem?, List.getElem?_eq_getElem (by omega), List.getD_eq_getElem?_getD, List.getElem?_eq_getElem (by omega)]
  simp [UInt8.toNat_inj]
theorem trimF_nil : trimF [] = [] := rfl
theorem trimF_no {l : List UInt8} (h : 0 < l.length) (h1 : (l.getD (l.length - 1) 0).toNat ≠ 10) : trimF l = l := by
  unfold trimF
  rw [if_neg (fun e => h1 ((last_some h 10).1 e))]
theorem trimF_one {l : List UInt8} (h : 0 < l.length) (h1 : (l.getD (l.length - 1) 0).toNat = 10) (h2 : l.length - 1 = 0 ∨ (l.getD (l.length - 2) 0).toNat ≠ 13) : trimF l = l.take (l.length - 1) := by
  unfold trimF
  rw [if_pos ((last_some h 10).2 h1), List.dropLast_eq_take]
  rw [if_neg]
  intro e
  by_cases h0 : l.length - 1 = 0
  · rw [h0] at e; simp at e
  · have := (last_some (l := l.take (l.length - 1)) (by rw [List.length_take]; omega) 13).1 e
    rcases h2 with h2 | h2
    · exact h0 h2
    · apply h2
      rw [← show (13 : UInt8).toNat = 13 from rfl, ← this, List.length_take, Nat.min_eq_left (by omega), show l.length - 1 - 1 = l.length - 2 by omega]
      rw [List.getD_eq_getElem?_getD, List.getD_eq_getElem?_getD, List.getElem?_take_of_lt (by omega)]
theorem trimF_two {l : List UInt8} (h : 1 < l.length) (h1 : (l.getD (l.length - 1) 0).toNat = 10) (h2 : (l.getD (l.length - 2) 0).toNat = 13) : trimF l = l.take (l.length - 2) := by
  unfold trimF
  rw [if_pos ((last_some (by omega) 10).2 h1), List.dropLast_eq_take, if_pos, List.dropLast_eq_take, List.take_take, List.length_take]
  · congr 1; omega
  · refine (last_some (l := l.take (l.length - 1)) (by rw [List.length_take]; omega) 13).2 ?_
    rw [← show (13 : UInt8).toNat = 13 from rfl] at h2
    rw [← h2, List.length_take, Nat.min_eq_left (by omega), show l.length - 1 - 1 = l.length - 2 by omega]
    rw [List.getD_eq_getElem?_getD, List.getD_eq_getElem?_getD, List.getElem?_take_of_lt (by omega)]
theorem Src.take {tp : List (Nat × Obj)} {b off : Nat} {l : List UInt8} (h : Src tp b off l) (k : Nat) : Src tp b off (l.take k) := fun w' hw => (h w' hw).take k

set_option maxRecDepth 100000 in
set_option maxHeartbeats 40000000 in
theorem trim_st {tp : List (Nat × Obj)} {c0 : Value} {w : World} {b1 o1 n1 c1 : Nat} {v4 : Value} {line : List UInt8}
    (htp : ∀ p ∈ tp, w.heap[p.1]? = some p.2) (hs1 : Src tp b1 o1 line) (hn1 : n1 = line.length) (hc1 : n1 ≤ c1) (hbig1 : n1 ≤ 1000000)
    (Q : Exit → Act → World → Prop) (d2 d3 d6 d7 d8 d9 d10 d11 d12 d13 d14 d15 d16 d17 d18 d19 d20 d21 d22 d23 d24 d25 d26 d27 d28 d29 d30 d31 d32 d33 d34 d35 d36 d37 d38 d39 d40 d41 d42 d43 d44 d45 d46 d47 d48 d49 d50 d51 d52 d53 d54 d55 d56 d57 d58 d59 d60 d61 d62 d63 d64 d65 d66 d67 d68 d69 d70 d71 d72 d73 d74 d75 d76 d77 d78 d79 d80 d81 d82 d83 d84 d85 d86 d87 d88 d89 d90 d91 d92 d93 d94 d95 d96 d97 d98 d99 d100 d101 d102 d103 d104 d105 d106 d107 d108 d109 d110 d111 d112 d113 d114 d115 d116 d117 d118 d119 d120 d121 d122 d123 d124 d125 d126 d127 d128 d129 d130 d131 d132 d133 d134 d135 d136 d137 d138 d139 d140 d141 d142 d143 d144 d145 d146 d147 d148 d149 d150 d151 d152 d153 d154 d155 d156 d157 d158 d159 d160 d161 d162 d163 d164 d165 d166 d167 d168 d169 d170 d171 d172 d173 d174 d175 d176 d177 d178 d179 d180 d181 d182 d183 d184 d185 d186 d187 d188 d189 d190 d191 d192 d193 d194 d195 d196 d197 d198 d199 d200 d201 d202 d203 d204 d205 d206 d207 d208 d209 d210 d211 d212 d213 d214 d215 d216 d217 d218 d219 d220 d221 d222 d223 d224 d225 d226 d227 d228 d229 d230 d231 d232 d233 d234 d235 d236 d237 d238 d239 d240 d241 d242 d243 d244 d245 d246 d247 d248 d249 d250 d251 d252 d253 d254 d255 d256 d257 d258 d259 d260 d261 d262 d263 d264 d265 d266 d267 d268 d269 d270 d271 d272 d273 d274 d275 d276 d277 d278 d279 d280 d281 d282 d283 d284 d285 d286 d287 d288 d289 d290 d291 d292 d293 d294 d295 d296 d297 d298 d299 d300 d301 d302 d303 d304 d305 d306 d307 d308 d309 d310 d311 d312 d313 d314 d315 d316 d317 d318 d319 d320 d321 d322 d323 d324 d325 d326 d327 d328 d329 d330 d331 d332 d333 d334 d335 d336 d337 : Value)
    (hK : ∀ (u5 u48 u49 u50 u51 u52 u53 u54 u55 u56 u57 u58 u59 u60 u61 u62 u63 u64 u65 u66 u67 u68 u69 u70 u71 u72 u73 u74 u75 u76 u77 u78 u79 u80 u81 : Value) (n5 : Nat), u5 = .slice (some ⟨b1, o1, none⟩) n5 c1 → n5 = (trimF line).length → n5 ≤ n1 → Src tp b1 o1 (trimF line) → Q .normal ⟨#[c0, .slice (some ⟨b1, o1, none⟩) n1 c1, d2, d3, v4, u5, d6, d7, d8, d9, d10, d11, d12, d13, d14, d15, d16, d17, d18, d19, d20, d21, d22, d23, d24, d25, d26, d27, d28, d29, d30, d31, d32, d33, d34, d35, d36, d37, d38, d39, d40, d41, d42, d43, d44, d45, d46, d47, u48, u49, u50, u51, u52, u53, u54, u55, u56, u57, u58, u59, u60, u61, u62, u63, u64, u65, u66, u67, u68, u69, u70, u71, u72, u73, u74, u75, u76, u77, u78, u79, u80, u81, d82, d83, d84, d85, d86, d87, d88, d89, d90, d91, d92, d93, d94, d95, d96, d97, d98, d99, d100, d101, d102, d103, d104, d105, d106, d107, d108, d109, d110, d111, d112, d113, d114, d115, d116, d117, d118, d119, d120, d121, d122, d123, d124, d125, d126, d127, d128, d129, d130, d131, d132, d133, d134, d135, d136, d137, d138, d139, d140, d141, d142, d143, d144, d145, d146, d147, d148, d149, d150, d151, d152, d153, d154, d155, d156, d157, d158, d159, d160, d161, d162, d163, d164, d165, d166, d167, d168, d169, d170, d171, d172, d173, d174, d175, d176, d177, d178, d179, d180, d181, d182, d183, d184, d185, d186, d187, d188, d189, d190, d191, d192, d193, d194, d195, d196, d197, d198, d199, d200, d201, d202, d203, d204, d205, d206, d207, d208, d209, d210, d211, d212, d213, d214, d215, d216, d217, d218, d219, d220, d221, d222, d223, d224, d225, d226, d227, d228, d229, d230, d231, d232, d233, d234, d235, d236, d237, d238, d239, d240, d241, d242, d243, d244, d245, d246, d247, d248, d249, d250, d251, d252, d253, d254, d255, d256, d257, d258, d259, d260, d261, d262, d263, d264, d265, d266, d267, d268, d269, d270, d271, d272, d273, d274, d275, d276, d277, d278, d279, d280, d281, d282, d283, d284, d285, d286, d287, d288, d289, d290, d291, d292, d293, d294, d295, d296, d297, d298, d299, d300, d301, d302, d303, d304, d305, d306, d307, d308, d309, d310, d311, d312, d313, d314, d315, d316, d317, d318, d319, d320, d321, d322, d323, d324, d325, d326, d327, d328, d329, d330, d331, d332, d333, d334, d335, d336, d337], []⟩ w) :
    Code.wp Tryd.prog (code52 [1, 1, 1, 1, 1, 0]) Q ⟨#[c0, .slice (some ⟨b1, o1, none⟩) n1 c1, d2, d3, v4, .slice (some ⟨b1, o1, none⟩) n1 c1, d6, d7, d8, d9, d10, d11, d12, d13, d14, d15, d16, d17, d18, d19, d20, d21, d22, d23, d24, d25, d26, d27, d28, d29, d30, d31, d32, d33, d34, d35, d36, d37, d38, d39, d40, d41, d42, d43, d44, d45, d46, d47, d48, d49, d50, d51, d52, d53, d54, d55, d56, d57, d58, d59, d60, d61, d62, d63, d64, d65, d66, d67, d68, d69, d70, d71, d72, d73, d74, d75, d76, d77, d78, d79, d80, d81, d82, d83, d84, d85, d86, d87, d88, d89, d90, d91, d92, d93, d94, d95, d96, d97, d98, d99, d100, d101, d102, d103, d104, d105, d106, d107, d108, d109, d110, d111, d112, d113, d114, d115, d116, d117, d118, d119, d120, d121, d122, d123, d124, d125, d126, d127, d128, d129, d130, d131, d132, d133, d134, d135, d136, d137, d138, d139, d140, d141, d142, d143, d144, d145, d146, d147, d148, d149, d150, d151, d152, d153, d154, d155, d156, d157, d158, d159, d160, d161, d162, d163, d164, d165, d166, d167, d168, d169, d170, d171, d172, d173, d174, d175, d176, d177, d178, d179, d180, d181, d182, d183, d184, d185, d186, d187, d188, d189, d190, d191, d192, d193, d194, d195, d196, d197, d198, d199, d200, d201, d202, d203, d204, d205, d206, d207, d208, d209, d210, d211, d212, d213, d214, d215, d216, d217, d218, d219, d220, d221, d222, d223, d224, d225, d226, d227, d228, d229, d230, d231, d232, d233, d234, d235, d236, d237, d238, d239, d240, d241, d242, d243, d244, d245, d246, d247, d248, d249, d250, d251, d252, d253, d254, d255, d256, d257, d258, d259, d260, d261, d262, d263, d264, d265, d266, d267, d268, d269, d270, d271, d272, d273, d274, d275, d276, d277, d278, d279, d280, d281, d282, d283, d284, d285, d286, d287, d288, d289, d290, d291, d292, d293, d294, d295, d296, d297, d298, d299, d300, d301, d302, d303, d304, d305, d306, d307, d308, d309, d310, d311, d312, d313, d314, d315, d316, d317, d318, d319, d320, d321, d322, d323, d324, d325, d326, d327, d328, d329, d330, d331, d332, d333, d334, d335, d336, d337], []⟩ w := by
  have HK := Lib.hid hK
  have HN1 := Lib.hid hn1
  have HS1 := Lib.hid hs1
  have HR := Lib.hid (hs1 w htp)
  clear hK hn1 hs1 htp
  by_cases h0 : n1 = 0
  · have HE : Hid (trimF line = line) := by show _ = _; rw [show line = [] from List.length_eq_zero_iff.1 (by rw [← HN1.out]; exact h0)]; rfl
    have b0 : ¬ (0 : Int) < (n1 : Int) := by omega
    clear h0
    refine wp_nop ?_
    conv => arg 2; whnf
    go_wp2_with fail
    exact HK.out _ _ _ _ _ _ _ _ _ _ _ _ _ _ _ _ _ _ _ _ _ _ _ _ _ _ _ _ _ _ _ _ _ _ _ n1 rfl (by rw [HE.out]; exact HN1.out) (Nat.le_refl _) (by rw [HE.out]; exact HS1.out)
  · have b0 : (0 : Int) < (n1 : Int) := by omega
    obtain ⟨k, hk⟩ : ∃ k, k = n1 - 1 := ⟨_, rfl⟩
    have e1 : ((n1 : Int) - 1) = (k : Int) := by omega
    have hk1 : k < n1 := by omega
    have kk0 : (0 : Int) ≤ (k : Int) := by omega
    have kk1 : (k : Int) < (n1 : Int) := by omega
    obtain ⟨m, hm⟩ : ∃ m, m = (line.getD k 0).toNat := ⟨_, rfl⟩
    have hc : w.cell? ⟨b1, o1 + k, none⟩ = some (.int .u8 m) := by rw [hm]; exact HR.out k (by rw [← HN1.out]; exact hk1)
    have HM := Lib.hid (And.intro hm hk)
    clear hm h0
    by_cases c10 : m = 10
    · have t10 : ((m : Int) == 10) = true := by simp; omega
      have hsl1 := fun w' => slice_to w' b1 o1 n1 c1 k (by omega) hc1
      by_cases hk0 : k = 0
      · have HE : Hid (trimF line = line.take k) := by
          show _ = _
          have := trimF_one (l := line) (by rw [← HN1.out]; omega) (by rw [← HN1.out, ← HM.out.2, ← HM.out.1]; exact c10) (.inl (by rw [← HN1.out]; omega))
          rw [this, ← HN1.out, HM.out.2]
        have d0 : ¬ (0 : Int) < (k : Int) := by omega
        clear hk0 c10 hk
        refine wp_nop ?_
        conv => arg 2; whnf
        go_wp2_with fail
        exact HK.out _ _ _ _ _ _ _ _ _ _ _ _ _ _ _ _ _ _ _ _ _ _ _ _ _ _ _ _ _ _ _ _ _ _ _ k rfl (by rw [HE.out, List.length_take, ← HN1.out]; omega) (by omega) (by rw [HE.out]; exact HS1.out.take k)
      · have d0 : (0 : Int) < (k : Int) := by omega
        obtain ⟨k2, hk2⟩ : ∃ k2, k2 = k - 1 := ⟨_, rfl⟩
        have e2 : ((k : Int) - 1) = (k2 : Int) := by omega
        have hk21 : k2 < k := by omega
        have kk2 : (0 : Int) ≤ (k2 : Int) := by omega
        have kk3 : (k2 : Int) < (k : Int) := by omega
        obtain ⟨m2, hm2⟩ : ∃ m2, m2 = (line.getD k2 0).toNat := ⟨_, rfl⟩
        have hd : w.cell? ⟨b1, o1 + k2, none⟩ = some (.int .u8 m2) := by rw [hm2]; exact HR.out k2 (by rw [← HN1.out]; omega)
        have HM2 := Lib.hid (And.intro hm2 hk2)
        have hkn2 : line.length - 2 = k2 := by rw [← HN1.out]; omega
        by_cases c13 : m2 = 13
        · have HE : Hid (trimF line = line.take k2) := by
            show _ = _
            have := trimF_two (l := line) (by rw [← HN1.out]; omega) (by rw [← HN1.out, ← HM.out.2, ← HM.out.1]; exact c10) (by rw [hkn2, ← HM2.out.1]; exact c13)
            rw [this, hkn2]
          have t13 : ((m2 : Int) == 13) = true := by simp; omega
          have hsl2 := fun w' => slice_to w' b1 o1 k c1 k2 (by omega) (by omega)
          clear hk0 c10 hk hm2 c13 hkn2 hk2
          refine wp_nop ?_
          conv => arg 2; whnf
          go_wp2_with fail
          exact HK.out _ _ _ _ _ _ _ _ _ _ _ _ _ _ _ _ _ _ _ _ _ _ _ _ _ _ _ _ _ _ _ _ _ _ _ k2 rfl (by rw [HE.out, List.length_take, ← HN1.out]; omega) (by omega) (by rw [HE.out]; exact HS1.out.take k2)
        · have HE : Hid (trimF line = line.take k) := by
            show _ = _
            have := trimF_one (l := line) (by rw [← HN1.out]; omega) (by rw [← HN1.out, ← HM.out.2, ← HM.out.1]; exact c10) (.inr (by rw [hkn2, ← HM2.out.1]; exact c13))
            rw [this, ← HN1.out, HM.out.2]
          have t13 : ((m2 : Int) == 13) = false := by simp; omega
          clear hk0 c10 hk hm2 c13 hkn2 hk2
          refine wp_nop ?_
          conv => arg 2; whnf
          go_wp2_with fail
          exact HK.out _ _ _ _ _ _ _ _ _ _ _ _ _ _ _ _ _ _ _ _ _ _ _ _ _ _ _ _ _ _ _ _ _ _ _ k rfl (by rw [HE.out, List.length_take, ← HN1.out]; omega) (by omega) (by rw [HE.out]; exact HS1.out.take k)
    · have t10 : ((m : Int) == 10) = false := by simp; omega
      have HE : Hid (trimF line = line) := trimF_no (by rw [← HN1.out]; omega) (by rw [← HN1.out, ← HM.out.2, ← HM.out.1]; exact c10)
      clear c10 hk
      refine wp_nop ?_
      conv => arg 2; whnf
      go_wp2_with fail
      exact HK.out _ _ _ _ _ _ _ _ _ _ _ _ _ _ _ _ _ _ _ _ _ _ _ _ _ _ _ _ _ _ _ _ _ _ _ n1 rfl (by rw [HE.out]; exact HN1.out) (Nat.le_refl _) (by rw [HE.out]; exact HS1.out)

end Go.Proofs.YtdljobmhnnegiaaDoor

/- handleInputLine: behind the marker. -/
namespace Go.Proofs.YtdljobmhnnegiaaDoor
open Go.RowKit

theorem markedF_eq (s : CS) (saw : Bool) (line : List UInt8) (l2 tr : List UInt8) (h2 : l2 = if trimF line = tName then tNameLine else line) (h3 : tr = if trimF line = tName then tNameLine.dropLast else trimF line) :
    markedF s saw line = if tr = tPASS ∨ tr = tFAIL ∨ hasPre tr tFAILt = true then bigF s saw l2 tr else lineHF (skipF s l2 tr) saw l2 := by
  rw [h2, h3]
  rfl

set_option maxRecDepth 100000 in
set_option maxHeartbeats 40000000 in
theorem stA {cf : Cf} {B : Nat} {xm : List Nat} {tp : List (Nat × Obj)} {s : CS} {w : World} {b1 o1 n1 c1 : Nat} {saw : Bool} {line : List UInt8}
    (h : Core cf (B :: xm) tp s w) (hb : OB cf B s w) (hs1 : Src tp b1 o1 line) (hn1 : n1 = line.length) (hc1 : n1 ≤ c1) (hbig1 : n1 ≤ 900000)
    (hr : pe s + s.report.length + 2 * n1 ≤ 8900000)
    (Q : Exit → Act → World → Prop) (d2 d3 d5 d6 d7 d8 d9 d10 d11 d12 d13 d14 d15 d16 d17 d18 d19 d20 d21 d22 d23 d24 d25 d26 d27 d28 d29 d30 d31 d32 d33 d34 d35 d36 d37 d38 d39 d40 d41 d42 d43 d44 d45 d46 d47 d48 d49 d50 d51 d52 d53 d54 d55 d56 d57 d58 d59 d60 d61 d62 d63 d64 d65 d66 d67 d68 d69 d70 d71 d72 d73 d74 d75 d76 d77 d78 d79 d80 d81 d82 d83 d84 d85 d86 d87 d88 d89 d90 d91 d92 d93 d94 d95 d96 d97 d98 d99 d100 d101 d102 d103 d104 d105 d106 d107 d108 d109 d110 d111 d112 d113 d114 d115 d116 d117 d118 d119 d120 d121 d122 d123 d124 d125 d126 d127 d128 d129 d130 d131 d132 d133 d134 d135 d136 d137 d138 d139 d140 d141 d142 d143 d144 d145 d146 d147 d148 d149 d150 d151 d152 d153 d154 d155 d156 d157 d158 d159 d160 d161 d162 d163 d164 d165 d166 d167 d168 d169 d170 d171 d172 d173 d174 d175 d176 d177 d178 d179 d180 d181 d182 d183 d184 d185 d186 d187 d188 d189 d190 d191 d192 d193 d194 d195 d196 d197 d198 d199 d200 d201 d202 d203 d204 d205 d206 d207 d208 d209 d210 d211 d212 d213 d214 d215 d216 d217 d218 d219 d220 d221 d222 d223 d224 d225 d226 d227 d228 d229 d230 d231 d232 d233 d234 d235 d236 d237 d238 d239 d240 d241 d242 d243 d244 d245 d246 d247 d248 d249 d250 d251 d252 d253 d254 d255 d256 d257 d258 d259 d260 d261 d262 d263 d264 d265 d266 d267 d268 d269 d270 d271 d272 d273 d274 d275 d276 d277 d278 d279 d280 d281 d282 d283 d284 d285 d286 d287 d288 d289 d290 d291 d292 d293 d294 d295 d296 d297 d298 d299 d300 d301 d302 d303 d304 d305 d306 d307 d308 d309 d310 d311 d312 d313 d314 d315 d316 d317 d318 d319 d320 d321 d322 d323 d324 d325 d326 d327 d328 d329 d330 d331 d332 d333 d334 d335 d336 d337 : Value)
    (hK : ∀ (a : Act) (w' : World), a.defers = [] → HP cf B xm tp (markedF s saw line) w (.returned (.tuple #[])) w' → Q .ret a w') :
    Code.wp Tryd.prog (code52 [1, 1, 1, 1]) Q ⟨#[.pointer (some ⟨cf.c, 0, none⟩), .slice (some ⟨b1, o1, none⟩) n1 c1, d2, d3, .bool saw, d5, d6, d7, d8, d9, d10, d11, d12, d13, d14, d15, d16, d17, d18, d19, d20, d21, d22, d23, d24, d25, d26, d27, d28, d29, d30, d31, d32, d33, d34, d35, d36, d37, d38, d39, d40, d41, d42, d43, d44, d45, d46, d47, d48, d49, d50, d51, d52, d53, d54, d55, d56, d57, d58, d59, d60, d61, d62, d63, d64, d65, d66, d67, d68, d69, d70, d71, d72, d73, d74, d75, d76, d77, d78, d79, d80, d81, d82, d83, d84, d85, d86, d87, d88, d89, d90, d91, d92, d93, d94, d95, d96, d97, d98, d99, d100, d101, d102, d103, d104, d105, d106, d107, d108, d109, d110, d111, d112, d113, d114, d115, d116, d117, d118, d119, d120, d121, d122, d123, d124, d125, d126, d127, d128, d129, d130, d131, d132, d133, d134, d135, d136, d137, d138, d139, d140, d141, d142, d143, d144, d145, d146, d147, d148, d149, d150, d151, d152, d153, d154, d155, d156, d157, d158, d159, d160, d161, d162, d163, d164, d165, d166, d167, d168, d169, d170, d171, d172, d173, d174, d175, d176, d177, d178, d179, d180, d181, d182, d183, d184, d185, d186, d187, d188, d189, d190, d191, d192, d193, d194, d195, d196, d197, d198, d199, d200, d201, d202, d203, d204, d205, d206, d207, d208, d209, d210, d211, d212, d213, d214, d215, d216, d217, d218, d219, d220, d221, d222, d223, d224, d225, d226, d227, d228, d229, d230, d231, d232, d233, d234, d235, d236, d237, d238, d239, d240, d241, d242, d243, d244, d245, d246, d247, d248, d249, d250, d251, d252, d253, d254, d255, d256, d257, d258, d259, d260, d261, d262, d263, d264, d265, d266, d267, d268, d269, d270, d271, d272, d273, d274, d275, d276, d277, d278, d279, d280, d281, d282, d283, d284, d285, d286, d287, d288, d289, d290, d291, d292, d293, d294, d295, d296, d297, d298, d299, d300, d301, d302, d303, d304, d305, d306, d307, d308, d309, d310, d311, d312, d313, d314, d315, d316, d317, d318, d319, d320, d321, d322, d323, d324, d325, d326, d327, d328, d329, d330, d331, d332, d333, d334, d335, d336, d337], []⟩ w := by
  have HK := Lib.hid hK
  clear hK
  have kc := fun (w : World) (C : Array Value) (n c : Nat) => Lib.run_convert_bytes_const (P := Tryd.prog) w 23 5 C n c Tryd.underlying23 Tryd.underlying5
  have HH := Lib.hid (And.intro h (And.intro hb (And.intro hs1 (And.intro hn1 (And.intro hc1 (And.intro hbig1 hr))))))
  clear h hb hs1 hn1 hc1 hbig1 hr
  refine wp_nop ?_
  conv => arg 2; whnf
  refine wp_seq_k ?_
  intro K hKK
  have HKK := Lib.hid hKK
  clear hKK
  go_wp2_with fail
  refine HKK.out _ _ ?_
  refine wp_seq_k ?_
  intro K2 hKK2
  have HK2 := Lib.hid hKK2
  clear hKK2
  refine trim_st (fun q hq => HH.out.1.tpb hq) HH.out.2.2.1 HH.out.2.2.2.1 HH.out.2.2.2.2.1 (by have := HH.out.2.2.2.2.2.1; omega) _ _ _ _ _ _ _ _ _ _ _ _ _ _ _ _ _ _ _ _ _ _ _ _ _ _ _ _ _ _ _ _ _ _ _ _ _ _ _ _ _ _ _ _ _ _ _ _ _ _ _ _ _ _ _ _ _ _ _ _ _ _ _ _ _ _ _ _ _ _ _ _ _ _ _ _ _ _ _ _ _ _ _ _ _ _ _ _ _ _ _ _ _ _ _ _ _ _ _ _ _ _ _ _ _ _ _ _ _ _ _ _ _ _ _ _ _ _ _ _ _ _ _ _ _ _ _ _ _ _ _ _ _ _ _ _ _ _ _ _ _ _ _ _ _ _ _ _ _ _ _ _ _ _ _ _ _ _ _ _ _ _ _ _ _ _ _ _ _ _ _ _ _ _ _ _ _ _ _ _ _ _ _ _ _ _ _ _ _ _ _ _ _ _ _ _ _ _ _ _ _ _ _ _ _ _ _ _ _ _ _ _ _ _ _ _ _ _ _ _ _ _ _ _ _ _ _ _ _ _ _ _ _ _ _ _ _ _ _ _ _ _ _ _ _ _ _ _ _ _ _ _ _ _ _ _ _ _ _ _ _ _ _ _ _ _ _ _ _ _ _ _ _ _ _ _ _ _ _ _ _ _ _ _ _ _ _ _ _ _ _ _ _ _ _ _ _ _ _ _ _ _ _ _ _ _ _ _ _ _ _ _ _ _ _ _ _ _ _ _ _ _ _ _ _ _ _ _ _ _ _ _ _ _ _ ?_
  intro u5 u48 u49 u50 u51 u52 u53 u54 u55 u56 u57 u58 u59 u60 u61 u62 u63 u64 u65 u66 u67 u68 u69 u70 u71 u72 u73 u74 u75 u76 u77 u78 u79 u80 u81 n5 hu5 hn5 hn51 hs5
  subst hu5
  have H5 := Lib.hid (And.intro hn5 (And.intro hn51 hs5))
  clear hn5 hn51 hs5
  dsimp only
  refine HK2.out _ _ ?_
  refine wp_seq_k ?_
  intro K3 hKK3
  have HK3 := Lib.hid hKK3
  clear hKK3
  have hcv := conv_str (H5.out.2.2 w (fun q hq => HH.out.1.tpb hq)) n5 c1 H5.out.1
  obtain ⟨aN, haN⟩ : ∃ b, b = decide (trimF line = tName) := ⟨_, rfl⟩
  have tN : ((S (trimF line)).data.toList == [61, 61, 61, 32, 78, 65, 77, 69]) = aN := by rw [haN]; exact S_beq_dec _ tName
  have HAN := Lib.hid haN
  clear haN
  cases aN with
  | true =>
    have HU : Hid (markedF s saw line = if tNameLine.dropLast = tPASS ∨ tNameLine.dropLast = tFAIL ∨ hasPre tNameLine.dropLast tFAILt = true then bigF s saw tNameLine tNameLine.dropLast else lineHF (skipF s tNameLine tNameLine.dropLast) saw tNameLine) :=
      markedF_eq s saw line _ _ (if_pos (of_decide_eq_true HAN.out.symm)).symm (if_pos (of_decide_eq_true HAN.out.symm)).symm
    have hsl := fun w' G => slice_to w' G 0 11 11 10 (by omega) (by omega)
    have HX : Hid (∀ (C : Array Value) fr, C.toList = vals tNameLine → ∀ Q, Hid (∀ (a : Act) (w' : World), a.defers = [] → HP cf B xm tp (markedF s saw line) w (.returned (.tuple #[])) w' → Q .ret a w') → ∀ (e2 e3 e6 e7 e8 e9 e10 e11 e12 e13 e14 e15 e16 e17 e18 e19 e20 e21 e22 e23 e24 e25 e26 e27 e28 e29 e30 e31 e32 e33 e34 e35 e36 e37 e38 e39 e40 e41 e42 e43 e44 e45 e46 e47 e48 e49 e50 e51 e52 e53 e54 e55 e56 e57 e58 e59 e60 e61 e62 e63 e64 e65 e66 e67 e68 e69 e70 e71 e72 e73 e74 e75 e76 e77 e78 e79 e80 e81 e82 e83 e84 e85 e86 e87 e88 e89 e90 e91 e92 e93 e94 e95 e96 e97 e98 e99 e100 e101 e102 e103 e104 e105 e106 e107 e108 e109 e110 e111 e112 e113 e114 e115 e116 e117 e118 e119 e120 e121 e122 e123 e124 e125 e126 e127 e128 e129 e130 e131 e132 e133 e134 e135 e136 e137 e138 e139 e140 e141 e142 e143 e144 e145 e146 e147 e148 e149 e150 e151 e152 e153 e154 e155 e156 e157 e158 e159 e160 e161 e162 e163 e164 e165 e166 e167 e168 e169 e170 e171 e172 e173 e174 e175 e176 e177 e178 e179 e180 e181 e182 e183 e184 e185 e186 e187 e188 e189 e190 e191 e192 e193 e194 e195 e196 e197 e198 e199 e200 e201 e202 e203 e204 e205 e206 e207 e208 e209 e210 e211 e212 e213 e214 e215 e216 e217 e218 e219 e220 e221 e222 e223 e224 e225 e226 e227 e228 e229 e230 e231 e232 e233 e234 e235 e236 e237 e238 e239 e240 e241 e242 e243 e244 e245 e246 e247 e248 e249 e250 e251 e252 e253 e254 e255 e256 e257 e258 e259 e260 e261 e262 e263 e264 e265 e266 e267 e268 e269 e270 e271 e272 e273 e274 e275 e276 e277 e278 e279 e280 e281 e282 e283 e284 e285 e286 e287 e288 e289 e290 e291 e292 e293 e294 e295 e296 e297 e298 e299 e300 e301 e302 e303 e304 e305 e306 e307 e308 e309 e310 e311 e312 e313 e314 e315 e316 e317 e318 e319 e320 e321 e322 e323 e324 e325 e326 e327 e328 e329 e330 e331 e332 e333 e334 e335 e336 e337 : Value), Code.wp Tryd.prog (code52 [1, 1, 1, 1, 1, 1, 1]) Q ⟨#[.pointer (some ⟨cf.c, 0, none⟩), .slice (some ⟨w.heap.size, 0, none⟩) 11 11, e2, e3, .bool saw, .slice (some ⟨w.heap.size, 0, none⟩) 10 11, e6, e7, e8, e9, e10, e11, e12, e13, e14, e15, e16, e17, e18, e19, e20, e21, e22, e23, e24, e25, e26, e27, e28, e29, e30, e31, e32, e33, e34, e35, e36, e37, e38, e39, e40, e41, e42, e43, e44, e45, e46, e47, e48, e49, e50, e51, e52, e53, e54, e55, e56, e57, e58, e59, e60, e61, e62, e63, e64, e65, e66, e67, e68, e69, e70, e71, e72, e73, e74, e75, e76, e77, e78, e79, e80, e81, e82, e83, e84, e85, e86, e87, e88, e89, e90, e91, e92, e93, e94, e95, e96, e97, e98, e99, e100, e101, e102, e103, e104, e105, e106, e107, e108, e109, e110, e111, e112, e113, e114, e115, e116, e117, e118, e119, e120, e121, e122, e123, e124, e125, e126, e127, e128, e129, e130, e131, e132, e133, e134, e135, e136, e137, e138, e139, e140, e141, e142, e143, e144, e145, e146, e147, e148, e149, e150, e151, e152, e153, e154, e155, e156, e157, e158, e159, e160, e161, e162, e163, e164, e165, e166, e167, e168, e169, e170, e171, e172, e173, e174, e175, e176, e177, e178, e179, e180, e181, e182, e183, e184, e185, e186, e187, e188, e189, e190, e191, e192, e193, e194, e195, e196, e197, e198, e199, e200, e201, e202, e203, e204, e205, e206, e207, e208, e209, e210, e211, e212, e213, e214, e215, e216, e217, e218, e219, e220, e221, e222, e223, e224, e225, e226, e227, e228, e229, e230, e231, e232, e233, e234, e235, e236, e237, e238, e239, e240, e241, e242, e243, e244, e245, e246, e247, e248, e249, e250, e251, e252, e253, e254, e255, e256, e257, e258, e259, e260, e261, e262, e263, e264, e265, e266, e267, e268, e269, e270, e271, e272, e273, e274, e275, e276, e277, e278, e279, e280, e281, e282, e283, e284, e285, e286, e287, e288, e289, e290, e291, e292, e293, e294, e295, e296, e297, e298, e299, e300, e301, e302, e303, e304, e305, e306, e307, e308, e309, e310, e311, e312, e313, e314, e315, e316, e317, e318, e319, e320, e321, e322, e323, e324, e325, e326, e327, e328, e329, e330, e331, e332, e333, e334, e335, e336, e337], []⟩ (w.alloc (.cells C 5 fr))) := by
      intro C fr hCC Q HQ e2 e3 e6 e7 e8 e9 e10 e11 e12 e13 e14 e15 e16 e17 e18 e19 e20 e21 e22 e23 e24 e25 e26 e27 e28 e29 e30 e31 e32 e33 e34 e35 e36 e37 e38 e39 e40 e41 e42 e43 e44 e45 e46 e47 e48 e49 e50 e51 e52 e53 e54 e55 e56 e57 e58 e59 e60 e61 e62 e63 e64 e65 e66 e67 e68 e69 e70 e71 e72 e73 e74 e75 e76 e77 e78 e79 e80 e81 e82 e83 e84 e85 e86 e87 e88 e89 e90 e91 e92 e93 e94 e95 e96 e97 e98 e99 e100 e101 e102 e103 e104 e105 e106 e107 e108 e109 e110 e111 e112 e113 e114 e115 e116 e117 e118 e119 e120 e121 e122 e123 e124 e125 e126 e127 e128 e129 e130 e131 e132 e133 e134 e135 e136 e137 e138 e139 e140 e141 e142 e143 e144 e145 e146 e147 e148 e149 e150 e151 e152 e153 e154 e155 e156 e157 e158 e159 e160 e161 e162 e163 e164 e165 e166 e167 e168 e169 e170 e171 e172 e173 e174 e175 e176 e177 e178 e179 e180 e181 e182 e183 e184 e185 e186 e187 e188 e189 e190 e191 e192 e193 e194 e195 e196 e197 e198 e199 e200 e201 e202 e203 e204 e205 e206 e207 e208 e209 e210 e211 e212 e213 e214 e215 e216 e217 e218 e219 e220 e221 e222 e223 e224 e225 e226 e227 e228 e229 e230 e231 e232 e233 e234 e235 e236 e237 e238 e239 e240 e241 e242 e243 e244 e245 e246 e247 e248 e249 e250 e251 e252 e253 e254 e255 e256 e257 e258 e259 e260 e261 e262 e263 e264 e265 e266 e267 e268 e269 e270 e271 e272 e273 e274 e275 e276 e277 e278 e279 e280 e281 e282 e283 e284 e285 e286 e287 e288 e289 e290 e291 e292 e293 e294 e295 e296 e297 e298 e299 e300 e301 e302 e303 e304 e305 e306 e307 e308 e309 e310 e311 e312 e313 e314 e315 e316 e317 e318 e319 e320 e321 e322 e323 e324 e325 e326 e327 e328 e329 e330 e331 e332 e333 e334 e335 e336 e337
      have hbel : Below w.heap.size w (w.alloc (.cells C 5 fr)) := (Below.refl _ w).alloc (Nat.le_refl _) _
      have hC1 := (HH.out.1.new (.cells C 5 fr)).take (heap_alloc_new _ _)
      have hO1 : OB cf B s (w.alloc (.cells C 5 fr)) := ⟨HH.out.2.1.1.below hbel, HH.out.2.1.2⟩
      have hS : Src ((w.heap.size, .cells C 5 fr) :: tp) w.heap.size 0 tNameLine := fun w' hw => Rd.of_block (hw _ (List.mem_cons_self ..)) (by rw [List.take_of_length_le (by rw [hCC, vals_length]; exact Nat.le_refl _), hCC])
      have hS2 : Src ((w.heap.size, .cells C 5 fr) :: tp) w.heap.size 0 tNameLine.dropLast := hS.take 10
      refine stB (n1 := 11) (c1 := 11) (n5 := 10) (c5 := 11) hC1 hO1 hS rfl (by omega) (by omega) hS2 rfl (by omega) (by omega) (by have := HH.out.2.2.2.2.2.2; omega) Q _ _ _ _ _ _ _ _ _ _ _ _ _ _ _ _ _ _ _ _ _ _ _ _ _ _ _ _ _ _ _ _ _ _ _ _ _ _ _ _ _ _ _ _ _ _ _ _ _ _ _ _ _ _ _ _ _ _ _ _ _ _ _ _ _ _ _ _ _ _ _ _ _ _ _ _ _ _ _ _ _ _ _ _ _ _ _ _ _ _ _ _ _ _ _ _ _ _ _ _ _ _ _ _ _ _ _ _ _ _ _ _ _ _ _ _ _ _ _ _ _ _ _ _ _ _ _ _ _ _ _ _ _ _ _ _ _ _ _ _ _ _ _ _ _ _ _ _ _ _ _ _ _ _ _ _ _ _ _ _ _ _ _ _ _ _ _ _ _ _ _ _ _ _ _ _ _ _ _ _ _ _ _ _ _ _ _ _ _ _ _ _ _ _ _ _ _ _ _ _ _ _ _ _ _ _ _ _ _ _ _ _ _ _ _ _ _ _ _ _ _ _ _ _ _ _ _ _ _ _ _ _ _ _ _ _ _ _ _ _ _ _ _ _ _ _ _ _ _ _ _ _ _ _ _ _ _ _ _ _ _ _ _ _ _ _ _ _ _ _ _ _ _ _ _ _ _ _ _ _ _ _ _ _ _ _ _ _ _ _ _ _ _ _ _ _ _ _ _ _ _ _ _ _ _ _ _ _ _ _ _ _ _ _ _ _ _ _ _ _ _ _ _ _ _ _ _ _ _ _ _ _ _ _ ?_
      intro a w' ha hp
      refine HQ.out a w' ha ?_
      rw [HU.out]
      exact ⟨hp.1, hp.2.1.tdrop, (Same615.block (hbel.block _ HH.out.1.lt0.2)).i.trans hp.2.2.1, hp.2.2.2⟩
    go_wp2_with fail
    refine HK3.out _ _ ?_
    refine HX.out _ _ ?_ (NoP Q) (Lib.hid (fun a w' ha hp => HK.out a w' ha hp)) _ _ _ _ _ _ _ _ _ _ _ _ _ _ _ _ _ _ _ _ _ _ _ _ _ _ _ _ _ _ _ _ _ _ _ _ _ _ _ _ _ _ _ _ _ _ _ _ _ _ _ _ _ _ _ _ _ _ _ _ _ _ _ _ _ _ _ _ _ _ _ _ _ _ _ _ _ _ _ _ _ _ _ _ _ _ _ _ _ _ _ _ _ _ _ _ _ _ _ _ _ _ _ _ _ _ _ _ _ _ _ _ _ _ _ _ _ _ _ _ _ _ _ _ _ _ _ _ _ _ _ _ _ _ _ _ _ _ _ _ _ _ _ _ _ _ _ _ _ _ _ _ _ _ _ _ _ _ _ _ _ _ _ _ _ _ _ _ _ _ _ _ _ _ _ _ _ _ _ _ _ _ _ _ _ _ _ _ _ _ _ _ _ _ _ _ _ _ _ _ _ _ _ _ _ _ _ _ _ _ _ _ _ _ _ _ _ _ _ _ _ _ _ _ _ _ _ _ _ _ _ _ _ _ _ _ _ _ _ _ _ _ _ _ _ _ _ _ _ _ _ _ _ _ _ _ _ _ _ _ _ _ _ _ _ _ _ _ _ _ _ _ _ _ _ _ _ _ _ _ _ _ _ _ _ _ _ _ _ _ _ _ _ _ _ _ _ _ _ _ _ _ _ _ _ _ _ _ _ _ _ _ _ _ _ _ _ _ _ _ _ _ _ _ _ _ _ _ _ _ _ _ _ _
    rfl
  | false =>
    have HU : Hid (markedF s saw line = if trimF line = tPASS ∨ trimF line = tFAIL ∨ hasPre (trimF line) tFAILt = true then bigF s saw line (trimF line) else lineHF (skipF s line (trimF line)) saw line) :=
      markedF_eq s saw line _ _ (if_neg (of_decide_eq_false HAN.out.symm)).symm (if_neg (of_decide_eq_false HAN.out.symm)).symm
    go_wp2_with fail
    refine HK3.out _ _ ?_
    refine stB HH.out.1 HH.out.2.1 HH.out.2.2.1 HH.out.2.2.2.1 HH.out.2.2.2.2.1 (by have := HH.out.2.2.2.2.2.1; omega) H5.out.2.2 H5.out.1 (by have := H5.out.2.1; have := HH.out.2.2.2.2.1; omega) (by have := H5.out.2.1; have := HH.out.2.2.2.2.2.1; omega) (by have := HH.out.2.2.2.2.2.2; omega) _ _ _ _ _ _ _ _ _ _ _ _ _ _ _ _ _ _ _ _ _ _ _ _ _ _ _ _ _ _ _ _ _ _ _ _ _ _ _ _ _ _ _ _ _ _ _ _ _ _ _ _ _ _ _ _ _ _ _ _ _ _ _ _ _ _ _ _ _ _ _ _ _ _ _ _ _ _ _ _ _ _ _ _ _ _ _ _ _ _ _ _ _ _ _ _ _ _ _ _ _ _ _ _ _ _ _ _ _ _ _ _ _ _ _ _ _ _ _ _ _ _ _ _ _ _ _ _ _ _ _ _ _ _ _ _ _ _ _ _ _ _ _ _ _ _ _ _ _ _ _ _ _ _ _ _ _ _ _ _ _ _ _ _ _ _ _ _ _ _ _ _ _ _ _ _ _ _ _ _ _ _ _ _ _ _ _ _ _ _ _ _ _ _ _ _ _ _ _ _ _ _ _ _ _ _ _ _ _ _ _ _ _ _ _ _ _ _ _ _ _ _ _ _ _ _ _ _ _ _ _ _ _ _ _ _ _ _ _ _ _ _ _ _ _ _ _ _ _ _ _ _ _ _ _ _ _ _ _ _ _ _ _ _ _ _ _ _ _ _ _ _ _ _ _ _ _ _ _ _ _ _ _ _ _ _ _ _ _ _ _ _ _ _ _ _ _ _ _ _ _ _ _ _ _ _ _ _ _ _ _ _ _ _ _ _ _ _ _ _ _ _ _ _ _ _ _ _ _ _ _ _ _ _ _ ?_
    intro a w' ha hp
    refine HK.out a w' ha ?_
    rw [HU.out]
    exact hp

end Go.Proofs.YtdljobmhnnegiaaDoor
