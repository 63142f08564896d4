/- The loop of writeOutputEvent (function 53): it looks for markers in what the output buffer hands on. -/
import Derived.Test.YtdljobmhnnegiaaDoorWoMem
import Derived.Test.YtdljobmhnnegiaaDoorWoLaw
import Derived.Deep.RegionHeld3
import Derived.Deep.RegionLaw
namespace Go.Proofs.YtdljobmhnnegiaaDoor
open Go.RowKit

noncomputable def code53 (p : List Nat) : Code := codeAt p (Tryd.f53.body.getD .skip)

theorem getD_mid (acc r : List UInt8) (c : UInt8) : (acc ++ c :: r).getD acc.length 0 = c := by simp [List.getD_eq_getElem?_getD]
theorem getD_mid1 (acc r : List UInt8) (c d : UInt8) : (acc ++ c :: d :: r).getD (acc.length + 1) 0 = d := by simp [List.getD_eq_getElem?_getD]
theorem sl_from1 (w : World) (B off N cap i : Nat) (h1 : i + 1 ≤ N) (h2 : N ≤ cap) :
    (Instr.slice 23 (.slice (some ⟨B, off, none⟩) N cap) (some (.int .i64 ((i : Int) + 1))) none none).run Tryd.prog w = .ok (.slice (some ⟨B, if cap = i + 1 then off else off + (i + 1), none⟩) (N - (i + 1)) (cap - (i + 1))) w := by
  have := slice_from w B off N cap (i + 1) h1 h2
  rw [show ((i : Int) + 1) = ((i + 1 : Nat) : Int) by omega]
  exact this

set_option maxRecDepth 100000 in
set_option maxHeartbeats 40000000 in
theorem wo_loop {cf : Cf} {B : Nat} {xm : List Nat} {tp : List (Nat × Obj)} {s : CS} {w : World} {i0 k cp : Nat} {raw : Array Value} {l ty0 : List UInt8} (h : Core cf (B :: xm) tp s w) (hw : WB B i0 k raw l i0 w) (hsz : raw.size = 1024) (hk : k = l.length) (hik : i0 + k ≤ 1024)
    (hcp : k ≤ cp) (hcp2 : cp ≤ 1024) (hn : s.evs.length + k + 1 ≤ 100000000) (Q : Exit → Act → World → Prop) (d2 d3 d6 d7 d8 d9 d10 d11 d12 d13 d14 d15 d16 d17 d18 d19 d20 d21 d22 d23 d24 d25 d26 d27 d28 d29 d30 d31 d32 d33 d34 d35 d36 d37 d38 d39 d40 d41 d42 d43 d44 d45 d46 d47 d48 d49 d50 d51 d52 d53 d54 d55 d56 d57 d58 d59 d60 d61 d62 d63 d64 d65 d66 d67 d68 d69 d70 d71 d72 d73 d74 d75 d76 d77 d78 d79 d80 d81 d82 d83 d84 d85 d86 d87 d88 d89 d90 d91 d92 d93 d94 d95 d96 d97 d98 d99 d100 d101 d102 d103 d104 d105 d106 d107 d108 d109 d110 d111 d112 d113 d114 d115 d116 d117 : Value)
    (hK : ∀ (u1 u4 u5 u6 u7 u16 u17 u18 u19 u20 u21 u22 u23 u24 u25 u26 u27 u28 u29 u30 u31 u32 u33 u34 u35 u36 u37 u38 u39 u40 u41 u42 u43 u44 u45 u46 u47 u48 u49 u50 u51 u52 u53 u54 u55 u56 u57 u58 u59 u60 u61 u62 u63 u64 u65 u66 u67 u68 u69 u70 u71 u72 u73 u74 u75 u76 u77 u78 u79 u80 u81 u82 u83 u84 u85 u86 u87 u88 u89 u90 u91 u92 u93 u94 u95 u96 u97 u98 u99 u100 u101 u102 u103 u104 u105 u106 u107 : Value) (s' : CS) (ty acc : List UInt8) (o cp' : Nat) (w' : World), u1 = .slice (some ⟨B, o, none⟩) acc.length cp' → u4 = .string (S ty) → acc.length ≤ cp' → cp' ≤ 1024 → woL k s ty0 [] l = emitN s' acc ty → s'.evs.length ≤ s.evs.length + k → Core cf (B :: xm) tp s' w' → Same615 cf.c w w' → WB B i0 k raw acc o w' → Q .normal ⟨#[.pointer (some ⟨cf.c, 0, none⟩), u1, d2, d3, u4, u5, u6, u7, d8, d9, d10, d11, d12, d13, d14, d15, u16, u17, u18, u19, u20, u21, u22, u23, u24, u25, u26, u27, u28, u29, u30, u31, u32, u33, u34, u35, u36, u37, u38, u39, u40, u41, u42, u43, u44, u45, u46, u47, u48, u49, u50, u51, u52, u53, u54, u55, u56, u57, u58, u59, u60, u61, u62, u63, u64, u65, u66, u67, u68, u69, u70, u71, u72, u73, u74, u75, u76, u77, u78, u79, u80, u81, u82, u83, u84, u85, u86, u87, u88, u89, u90, u91, u92, u93, u94, u95, u96, u97, u98, u99, u100, u101, u102, u103, u104, u105, u106, u107, d108, d109, d110, d111, d112, d113, d114, d115, d116, d117], []⟩ w') :
    Code.wp Tryd.prog (code53 [1, 1, 0, 1]) Q ⟨#[.pointer (some ⟨cf.c, 0, none⟩), .slice (some ⟨B, i0, none⟩) k cp, d2, d3, .string (S ty0), .int .i64 (0 : Int), d6, d7, d8, d9, d10, d11, d12, d13, d14, d15, d16, d17, d18, d19, d20, d21, d22, d23, d24, d25, d26, d27, d28, d29, d30, d31, d32, d33, d34, d35, d36, d37, d38, d39, d40, d41, d42, d43, d44, d45, d46, d47, d48, d49, d50, d51, d52, d53, d54, d55, d56, d57, d58, d59, d60, d61, d62, d63, d64, d65, d66, d67, d68, d69, d70, d71, d72, d73, d74, d75, d76, d77, d78, d79, d80, d81, d82, d83, d84, d85, d86, d87, d88, d89, d90, d91, d92, d93, d94, d95, d96, d97, d98, d99, d100, d101, d102, d103, d104, d105, d106, d107, d108, d109, d110, d111, d112, d113, d114, d115, d116, d117], []⟩ w := by
  have HC0 := Lib.hid h
  have HW0 := Lib.hid hw
  have HK := Lib.hid hK
  have HKL := Lib.hid hk
  have HN := Lib.hid hn
  have HSZ := Lib.hid hsz
  have HIK := Lib.hid hik
  clear h hw hK hk hn hsz hik
  refine wp_nop ?_
  conv => arg 2; whnf
  go_wp2_with fail
  go_loopw [1, 4, 5] (fun v1 v4 v5 wr => ∃ (s' : CS) (ty acc rest : List UInt8) (q o n cp' iv : Nat), v1 = .slice (some ⟨B, o, none⟩) n cp' ∧ v4 = .string (S ty) ∧ v5 = .int .i64 iv ∧ n ≤ cp' ∧ cp' ≤ 1024 ∧ iv ≤ 1024 ∧ Hid (n = acc.length + rest.length ∧ (iv = acc.length ∨ (n = 0 ∧ iv = 1))) ∧
      Hid (Core cf (B :: xm) tp s' wr) ∧ Hid (Same615 cf.c w wr) ∧ Hid (WB B i0 k raw (acc ++ rest) o wr) ∧ Hid (rest.length ≤ q ∧ woL k s ty0 [] l = woL q s' ty acc rest) ∧ Hid (s'.evs.length + rest.length ≤ s.evs.length + k)) (fun v1 _ v5 _ => match v1 with | .slice _ n _ => n - (intOf v5).toNat | _ => 0)
  case atStart => exact ⟨s, ty0, [], l, k, i0, k, cp, 0, rfl, rfl, rfl, hcp, hcp2, by omega, ⟨by rw [HKL.out]; simp, .inl rfl⟩, HC0, Same615.refl _ _, HW0, ⟨by rw [← HKL.out]; exact Nat.le_refl _, rfl⟩, by rw [← HKL.out]; exact Nat.le_refl _⟩
  case round =>
    obtain ⟨s', ty, acc, rest, q, o, n, cp', iv, rfl, rfl, rfl, hncp, hcp', hiv, HI, HC, HSM, HWB, HQ, HEV⟩ := hrel
    clear hcp hcp2
    by_cases hin : iv < n
    · have hI := HI.out
      have hiv2 : iv = acc.length := by rcases hI.2 with h2 | h2 <;> omega
      cases rest with
      | nil => exact absurd hI.1 (by simp; omega)
      | cons c r =>
      have hnl : n = iv + r.length + 1 := by have := hI.1; simp at this; omega
      have HNL := Lib.hid hnl
      have HIV := Lib.hid hiv2
      have hB := (HC.out.xlt (by simp : B ∈ B :: xm)).2.2
      have HBC : Hid (B ≠ cf.c) := hB
      have c18 := HC.out.cells 18 _ rfl
      have f18 := HC.out.fr 18
      have hcell : wr.cell? ⟨B, o + iv, none⟩ = some (.int .u8 c.toNat) := by
        rw [hiv2]
        have := HWB.out.cell (j := acc.length) (by simp)
        rw [getD_mid] at this
        exact this
      clear hI hiv2 hnl hB HI
      have b0 : (0 : Int) ≤ (iv : Int) := by omega
      have b1 : (iv : Int) < (n : Int) := by omega
      obtain ⟨E, hE⟩ : ∃ E, E = s'.mEsc := ⟨_, rfl⟩
      have c18' : wr.cell? ⟨cf.c, 18, none⟩ = some (.bool E) := by rw [hE]; exact c18
      have HE := Lib.hid hE
      clear c18 hE
      cases E with
      | true =>
        clear hcell
        have HC1 := Lib.hid (HC.out.setEsc false)
        go_wp2_with fail
        go_roundw
        case rel =>
          refine ⟨{ s' with mEsc := false }, ty, acc ++ [c], r, q - 1, o, n, cp', iv + 1, rfl, rfl, by go_num, hncp, hcp', by omega, ⟨by have := HNL.out; have := HIV.out; simp; omega, .inl (by have := HIV.out; simp; omega)⟩, HC1.out.1, HSM.out.trans HC1.out.2, ?_, ⟨by have := HQ.out.1; simp at this ⊢; omega, HQ.out.2.trans (woL_esc HE.out.symm HQ.out.1)⟩, by show _ ≤ _; have := HEV.out; simp at this ⊢; omega⟩
          have h1 := HWB.out.same (Below.heap_setCell wr ⟨cf.c, 18, none⟩ (.bool false) B HBC.out)
          rw [List.append_assoc]; exact h1
        case measure => simp [intOf]; omega
      | false =>
        obtain ⟨m, hm⟩ : ∃ m, m = c.toNat := ⟨_, rfl⟩
        rw [← hm] at hcell
        have HX : Hid (∀ k : UInt8, c = k ↔ m = k.toNat) := fun k => by rw [hm]; exact UInt8.toNat_inj.symm
        clear hm
        obtain ⟨i5, hi5, hz50, hz51, hz52⟩ := info_parts info5
        have HI5 := Lib.hid hi5
        have HZ51 := Lib.hid hz51
        clear hi5 hz50 hz51 hz52
        by_cases c27 : m = 27
        · have t27 : ((m : Int) == 27) = true := by simp; omega
          have C27 := Lib.hid c27
          clear c27
          have hv1 : (vals r).length = n - (iv + 1) := by rw [vals_length]; have := HNL.out; omega
          have HV1 : Hid ((vals r).length = (n - (iv + 1)) * 1) := by rw [Nat.mul_one]; exact hv1
          obtain ⟨AO, hAO⟩ : ∃ AO, AO = if cp' = iv + 1 then o else o + (iv + 1) := ⟨_, rfl⟩
          have hsl : ∀ w', (Instr.slice 23 (.slice (some ⟨B, o, none⟩) n cp') (some (.int .i64 ((iv : Int) + 1))) none none).run Tryd.prog w' = .ok (.slice (some ⟨B, AO, none⟩) (n - (iv + 1)) (cp' - (iv + 1))) w' := fun w' => by rw [hAO]; exact sl_from1 w' B o n cp' iv (by omega) hncp
          have HSRC : Hid (∀ j u, (vals r)[j]? = some u → wr.drew.cell? ((⟨B, AO, none⟩ : Addr).add j) = some u) := by
            intro j u hj
            have hjl : j < r.length := by have := (List.getElem?_eq_some_iff.1 hj).1; rwa [vals_length] at this
            rw [hAO, if_neg (by have := HNL.out; omega)]
            have h1 := (HWB.out.drop (acc.length + 1)).rd
            rw [show (acc ++ c :: r).drop (acc.length + 1) = r by rw [List.drop_append]; simp, ← HIV.out] at h1
            exact Rd.vals h1 j u hj
          have HAO := Lib.hid hAO
          have HSP : Hid (∀ j, j < (vals r).length → (wr.drew.cell? ⟨B, o + iv * 1 + j, none⟩).isSome = true ∧ wr.drew.frozen? ⟨B, o + iv * 1 + j, none⟩ = false) := by
            intro j hj
            rw [vals_length] at hj
            have h1 := HWB.out.cell (j := iv + j) (by have := HIV.out; simp; omega)
            refine ⟨?_, HWB.out.fr _⟩
            rw [Nat.mul_one, Nat.add_assoc]
            exact Option.isSome_iff_exists.2 ⟨_, h1⟩
          have HROOM : Hid (iv + (n - (iv + 1)) ≤ cp') := by show _ ≤ _; omega
          have HC2 : Hid (Core cf (B :: xm) tp s' (wr.drew.setCells B (o + iv * 1) (vals r))) := HC.out.drew.off (Off.cells (bs := [B]) (by simp) _ _ _) (by simp)
          have HS2 : Hid (Same615 cf.c wr (wr.drew.setCells B (o + iv * 1) (vals r))) := Same615.block (w := wr) (setCells_other _ _ _ _ _ (Ne.symm HBC.out))
          have HW2 : Hid (WB B i0 k raw (acc ++ r) o (wr.drew.setCells B (o + iv * 1) (vals r))) := by
            rw [Nat.mul_one, HIV.out]
            exact WB.del (HWB.out.same rfl) (by rw [HSZ.out]; exact HIK.out)
          clear hAO hv1
          obtain ⟨w2, hw2⟩ : ∃ w2, w2 = wr.drew.setCells B (o + iv * 1) (vals r) := ⟨_, rfl⟩
          rw [← hw2] at HC2 HS2 HW2
          have HWW := Lib.hid hw2
          clear hw2
          have k1 : IntKind.i64.wrap ((iv : Int) + 1) = (iv : Int) + 1 := IntWalk.i64_in _ (by omega)
          have b2 : (iv : Int) ≤ (n : Int) := by omega
          have b3 : (iv : Int) ≤ (cp' : Int) := by omega
          go_wp2_with fail
          go_region_held3 (fun _ => True) (trivial) ((refine step_append_room rfl (.tmp 37) (.tmp 41) 23 rfl 5 i5 1 Tryd.underlying23 HI5.out HZ51.out B o iv cp' (by rfl) ⟨B, AO, none⟩ (n - (iv + 1)) (cp' - (iv + 1)) (vals r) (by rfl) HV1.out HSRC.out (vals_one r) HROOM.out HSP.out ?_))
          rw [← HWW.out]
          clear HSRC HSP hcell c18' f18 hsl k1 HV1 HI5 HZ51
          have c18'' : w2.cell? ⟨cf.c, 18, none⟩ = some (.bool s'.mEsc) := HC2.out.cells 18 _ rfl
          have f18'' := HC2.out.fr 18
          have HC3 := Lib.hid (HC2.out.setEsc true)
          go_wp2_with fail
          go_roundw
          case rel =>
            have hc : c = 27 := (HX.out 27).2 C27.out
            subst hc
            refine ⟨{ s' with mEsc := true }, ty, acc, r, q - 1, o, iv + (n - (iv + 1)), cp', iv, rfl, rfl, rfl, by omega, hcp', hiv, ⟨by have := HNL.out; have := HIV.out; omega, .inl HIV.out⟩, HC3.out.1, (HSM.out.trans HS2.out).trans HC3.out.2, HW2.out.same (Below.heap_setCell w2 ⟨cf.c, 18, none⟩ (.bool true) B HBC.out), ⟨by have := HQ.out.1; simp at this ⊢; omega, HQ.out.2.trans (woL_27 HE.out.symm HQ.out.1)⟩, by show _ ≤ _; have := HEV.out; simp at this ⊢; omega⟩
          case measure => simp [intOf]; omega
        · have t27 : ((m : Int) == 27) = false := by simp; omega
          have C27 := Lib.hid c27
          clear c27
          by_cases c15 : m = 15
          · have t15 : ((m : Int) == 15) = true := by simp; omega
            have C15 := Lib.hid c15
            clear c15
            obtain ⟨AO, hAO⟩ : ∃ AO, AO = if cp' = iv + 1 then o else o + (iv + 1) := ⟨_, rfl⟩
            have hsl : ∀ w', (Instr.slice 23 (.slice (some ⟨B, o, none⟩) n cp') (some (.int .i64 ((iv : Int) + 1))) none none).run Tryd.prog w' = .ok (.slice (some ⟨B, AO, none⟩) (n - (iv + 1)) (cp' - (iv + 1))) w' := fun w' => by rw [hAO]; exact sl_from1 w' B o n cp' iv (by omega) hncp
            have HWR : Hid (∀ w', w'.heap[B]? = wr.heap[B]? → WB B i0 k raw (r.take 1 ++ r.drop 1) AO w') := fun w' hb => by
              rw [List.take_append_drop]
              have h1 := HWB.out.same hb
              by_cases e : cp' = iv + 1
              · have : r = [] := List.eq_nil_of_length_eq_zero (by have := HNL.out; omega)
                rw [this]; exact h1.nil _
              · rw [hAO, if_neg e]
                have h2 := h1.drop (acc.length + 1)
                rw [show (acc ++ c :: r).drop (acc.length + 1) = r by rw [List.drop_append]; simp, ← HIV.out] at h2
                exact h2
            clear hAO HI5 HZ51
            have hc : c = 15 := (HX.out 15).2 C15.out
            have HQ2 : Hid ((r.drop 1).length ≤ q - 1 ∧ woL k s ty0 [] l = woL (q - 1) { emitN s' acc ty with mErr := true } [101, 114, 114, 111, 114] (r.take 1) (r.drop 1)) := by
              refine ⟨by have := HQ.out.1; simp at this ⊢; omega, HQ.out.2.trans ?_⟩
              have h1 := HQ.out.1
              rw [hc] at h1 ⊢
              exact woL_15 HE.out.symm h1
            have HEV2 : Hid ((emitN s' acc ty).evs.length + (r.drop 1).length ≤ s.evs.length + k) := by
              show _ ≤ _
              have h1 := HEV.out
              have h2 := emitN_len s' acc ty
              simp at h1 ⊢
              omega
            have HLEN : Hid (n - (iv + 1) = (r.take 1).length + (r.drop 1).length ∧ (1 = (r.take 1).length ∨ (n - (iv + 1) = 0 ∧ 1 = 1))) := by
              have := HNL.out
              refine ⟨by simp; omega, ?_⟩
              rcases Nat.eq_zero_or_pos r.length with h | h
              · exact .inr ⟨by omega, rfl⟩
              · exact .inl (by rw [List.length_take]; omega)
            have k1 : IntKind.i64.wrap ((iv : Int) + 1) = (iv : Int) + 1 := IntWalk.i64_in _ (by omega)
            have b2 : (iv : Int) ≤ (n : Int) := by omega
            have b3 : (iv : Int) ≤ (cp' : Int) := by omega
            clear hc
            by_cases iv0 : (0 : Int) < (iv : Int)
            · have hrd : Rd wr B o acc := by
                have h1 := HWB.out.rd.take acc.length
                rw [show (acc ++ c :: r).take acc.length = acc by simp] at h1
                exact h1
              have HCL := Lib.hid (clone_any hrd iv cp' HIV.out (by omega))
              have HN1 : Hid (s'.evs.length ≤ 100000000) := by show _ ≤ _; have := HEV.out; have := HN.out; omega
              have HL1 : Hid (acc.length ≤ 140737488351232) := by show _ ≤ _; rw [← HIV.out]; omega
              have HEM : Hid (emitN s' acc ty = emit s' (.out acc ty)) := by show _ = _; unfold emitN; rw [if_neg (fun hh => by have := HIV.out; rw [hh] at this; simp at this; omega)]
              clear hrd
              go_wp2_with fail
              refine HCL.out.mono ?_
              rintro en w1 ⟨v, rfl, hcl⟩
              obtain ⟨p1, n1, c1, rfl⟩ := cloned_form hcl
              have HCLN := Lib.hid hcl
              clear hcl HCL
              go_wp2_with fail
              refine (out_call HC.out HCLN.out ty HN1.out HL1.out).mono ?_
              rintro en w3 ⟨rfl, hC3, hS3, hB3⟩
              rw [← HEM.out] at hC3
              have HB3 := Lib.hid hB3
              have HS3 := Lib.hid hS3
              have c17 := hC3.cells 17 _ rfl
              have f17 := hC3.fr 17
              have HC4 := Lib.hid (hC3.setErr true)
              clear hB3 hS3 hC3 hcell c18' f18
              go_wp2_with fail
              go_roundw
              case rel =>
                exact ⟨{ emitN s' acc ty with mErr := true }, [101, 114, 114, 111, 114], r.take 1, r.drop 1, q - 1, AO, n - (iv + 1), cp' - (iv + 1), 1, rfl, rfl, rfl, by omega, by omega, by omega, ⟨HLEN.out.1, HLEN.out.2.imp id (fun h => ⟨h.1, rfl⟩)⟩, HC4.out.1, (HSM.out.trans HS3.out).trans HC4.out.2, HWR.out _ ((Below.heap_setCell w3 ⟨cf.c, 17, none⟩ (.bool true) B HBC.out).trans HB3.out), HQ2, HEV2⟩
              case measure => simp [intOf]; omega
            · have HEM : Hid (emitN s' acc ty = s') := by
                show _ = _
                unfold emitN
                rw [if_pos (List.eq_nil_of_length_eq_zero (by have := HIV.out; omega))]
              have c17 := HC.out.cells 17 _ rfl
              have f17 := HC.out.fr 17
              have HC4 : Hid (Core cf (B :: xm) tp { emitN s' acc ty with mErr := true } (wr.setCell ⟨cf.c, 17, none⟩ (.bool true)) ∧ Same615 cf.c wr (wr.setCell ⟨cf.c, 17, none⟩ (.bool true))) := by rw [HEM.out]; exact HC.out.setErr true
              go_wp2_with fail
              go_roundw
              case rel =>
                exact ⟨{ emitN s' acc ty with mErr := true }, [101, 114, 114, 111, 114], r.take 1, r.drop 1, q - 1, AO, n - (iv + 1), cp' - (iv + 1), 1, rfl, rfl, rfl, by omega, by omega, by omega, ⟨HLEN.out.1, HLEN.out.2.imp id (fun h => ⟨h.1, rfl⟩)⟩, HC4.out.1, HSM.out.trans HC4.out.2, HWR.out _ (Below.heap_setCell wr ⟨cf.c, 17, none⟩ (.bool true) B HBC.out), HQ2, HEV2⟩
              case measure => simp [intOf]; omega
          · have t15 : ((m : Int) == 15) = false := by simp; omega
            have C15 := Lib.hid c15
            clear c15
            by_cases c14 : m = 14
            · have t14 : ((m : Int) == 14) = true := by simp; omega
              have C14 := Lib.hid c14
              clear c14
              have hv1 : (vals r).length = n - (iv + 1) := by rw [vals_length]; have := HNL.out; omega
              have HV1 : Hid ((vals r).length = (n - (iv + 1)) * 1) := by rw [Nat.mul_one]; exact hv1
              obtain ⟨AO, hAO⟩ : ∃ AO, AO = if cp' = iv + 1 then o else o + (iv + 1) := ⟨_, rfl⟩
              have hsl : ∀ w', (Instr.slice 23 (.slice (some ⟨B, o, none⟩) n cp') (some (.int .i64 ((iv : Int) + 1))) none none).run Tryd.prog w' = .ok (.slice (some ⟨B, AO, none⟩) (n - (iv + 1)) (cp' - (iv + 1))) w' := fun w' => by rw [hAO]; exact sl_from1 w' B o n cp' iv (by omega) hncp
              have HSRC : Hid (∀ j u, (vals r)[j]? = some u → wr.drew.cell? ((⟨B, AO, none⟩ : Addr).add j) = some u) := by
                intro j u hj
                have hjl : j < r.length := by have := (List.getElem?_eq_some_iff.1 hj).1; rwa [vals_length] at this
                rw [hAO, if_neg (by have := HNL.out; omega)]
                have h1 := (HWB.out.drop (acc.length + 1)).rd
                rw [show (acc ++ c :: r).drop (acc.length + 1) = r by rw [List.drop_append]; simp, ← HIV.out] at h1
                exact Rd.vals h1 j u hj
              have HAO := Lib.hid hAO
              have HSP : Hid (∀ j, j < (vals r).length → (wr.drew.cell? ⟨B, o + iv * 1 + j, none⟩).isSome = true ∧ wr.drew.frozen? ⟨B, o + iv * 1 + j, none⟩ = false) := by
                intro j hj
                rw [vals_length] at hj
                have h1 := HWB.out.cell (j := iv + j) (by have := HIV.out; simp; omega)
                refine ⟨?_, HWB.out.fr _⟩
                rw [Nat.mul_one, Nat.add_assoc]
                exact Option.isSome_iff_exists.2 ⟨_, h1⟩
              have HROOM : Hid (iv + (n - (iv + 1)) ≤ cp') := by show _ ≤ _; omega
              have HC2 : Hid (Core cf (B :: xm) tp s' (wr.drew.setCells B (o + iv * 1) (vals r))) := HC.out.drew.off (Off.cells (bs := [B]) (by simp) _ _ _) (by simp)
              have HS2 : Hid (Same615 cf.c wr (wr.drew.setCells B (o + iv * 1) (vals r))) := Same615.block (w := wr) (setCells_other _ _ _ _ _ (Ne.symm HBC.out))
              have HW2 : Hid (WB B i0 k raw (acc ++ r) o (wr.drew.setCells B (o + iv * 1) (vals r))) := by
                rw [Nat.mul_one, HIV.out]
                exact WB.del (HWB.out.same rfl) (by rw [HSZ.out]; exact HIK.out)
              clear hAO hv1
              obtain ⟨w2, hw2⟩ : ∃ w2, w2 = wr.drew.setCells B (o + iv * 1) (vals r) := ⟨_, rfl⟩
              rw [← hw2] at HC2 HS2 HW2
              have HWW := Lib.hid hw2
              clear hw2
              have k1 : IntKind.i64.wrap ((iv : Int) + 1) = (iv : Int) + 1 := IntWalk.i64_in _ (by omega)
              have b2 : (iv : Int) ≤ (n : Int) := by omega
              have b3 : (iv : Int) ≤ (cp' : Int) := by omega
              go_wp2_with fail
              go_region_held3 (fun _ => True) (trivial) ((refine step_append_room rfl (.tmp 73) (.tmp 77) 23 rfl 5 i5 1 Tryd.underlying23 HI5.out HZ51.out B o iv cp' (by rfl) ⟨B, AO, none⟩ (n - (iv + 1)) (cp' - (iv + 1)) (vals r) (by rfl) HV1.out HSRC.out (vals_one r) HROOM.out HSP.out ?_))
              rw [← HWW.out]
              clear HSRC HSP hcell c18' f18 hsl k1 HV1 HI5 HZ51
              obtain ⟨n1, hn1⟩ : ∃ n1, n1 = iv + (n - (iv + 1)) := ⟨_, rfl⟩
              rw [← hn1]
              have HN1E : Hid (n1 = iv + r.length) := by show _ = _; have := HNL.out; omega
              have hn1c : n1 ≤ cp' := by omega
              have hn1b : n1 < n := by omega
              clear hn1
              have hc : c = 14 := (HX.out 14).2 C14.out
              have HB1 : Hid (iv + 1 ≤ cp') := by show _ ≤ _; omega
              have hsl2 : ∀ w', (Instr.slice 23 (.slice (some ⟨B, o, none⟩) n1 cp') (some (.int .i64 (iv : Int))) none none).run Tryd.prog w' = .ok (.slice (some ⟨B, o + iv, none⟩) (n1 - iv) (cp' - iv)) w' := fun w' => by
                have := slice_from w' B o n1 cp' iv (by have := HN1E.out; omega) hn1c
                rw [if_neg (by have := HB1.out; omega)] at this
                exact this
              have b4 : (iv : Int) ≤ (n1 : Int) := by have := HN1E.out; omega
              have b5 : (n1 : Int) ≤ (cp' : Int) := by omega
              by_cases hh10 : r.head? = some 10
              · obtain ⟨r', rfl⟩ : ∃ r', r = 10 :: r' := by
                  cases r with
                  | nil => simp at hh10
                  | cons d r' => simp at hh10; exact ⟨r', by rw [hh10]⟩
                clear hh10
                have hlt : (iv : Int) < (n1 : Int) := by have := HN1E.out; simp at this; omega
                have hcell : w2.cell? ⟨B, o + iv, none⟩ = some (.int .u8 ((10 : Nat) : Int)) := by
                  have := HW2.out.cell (j := acc.length) (by simp)
                  rw [getD_mid, ← HIV.out] at this
                  exact this
                have t10 : (((10 : Nat) : Int) == 10) = true := by decide
                obtain ⟨AO2, hAO2⟩ : ∃ AO2, AO2 = if cp' = iv + 1 then o else o + (iv + 1) := ⟨_, rfl⟩
                have hsl3 : ∀ w', (Instr.slice 23 (.slice (some ⟨B, o, none⟩) n1 cp') (some (.int .i64 ((iv : Int) + 1))) none none).run Tryd.prog w' = .ok (.slice (some ⟨B, AO2, none⟩) (n1 - (iv + 1)) (cp' - (iv + 1))) w' := fun w' => by rw [hAO2]; exact sl_from1 w' B o n1 cp' iv (by omega) hn1c
                have k2 : IntKind.i64.wrap ((iv : Int) + 1) = (iv : Int) + 1 := IntWalk.i64_in _ (by omega)
                have k3 : ((iv : Int) + 1).toNat = iv + 1 := by rw [show ((iv : Int) + 1) = ((iv + 1 : Nat) : Int) by omega]; exact Int.toNat_natCast _
                have b6 : (0 : Int) ≤ (iv : Int) + 1 := by omega
                have b7 : (iv : Int) + 1 ≤ (cp' : Int) := by omega
                have hrd : Rd w2 B o (acc ++ [10]) := by
                  have h1 := HW2.out.rd.take (acc.length + 1)
                  rw [show (acc ++ 10 :: r').take (acc.length + 1) = acc ++ [10] by rw [List.take_append, List.take_of_length_le (by omega)]; simp] at h1
                  exact h1
                have HCL := Lib.hid (clone_any hrd (iv + 1) cp' (by have := HIV.out; first | omega | (simp; omega)) (by omega))
                have HN1 : Hid (s'.evs.length ≤ 100000000) := by show _ ≤ _; have := HEV.out; have := HN.out; omega
                have HL1 : Hid ((acc ++ [10]).length ≤ 140737488351232) := by show _ ≤ _; have := HIV.out; first | omega | (simp; omega)
                have HC2b := HC2
                have HQ2 : Hid ((r'.drop 1).length ≤ q - 1 ∧ woL k s ty0 [] l = woL (q - 1) { emit s' (.out (acc ++ [10]) ty) with mErr := false } [] (r'.take 1) (r'.drop 1)) := by
                  refine ⟨by have := HQ.out.1; simp at this ⊢; omega, HQ.out.2.trans ?_⟩
                  have h1 := HQ.out.1
                  rw [hc] at h1 ⊢
                  exact woL_14n HE.out.symm h1
                have HEV2 : Hid ((emit s' (.out (acc ++ [10]) ty)).evs.length + (r'.drop 1).length ≤ s.evs.length + k) := by
                  show _ ≤ _
                  have h1 := HEV.out
                  have h2 := emit_len s' (.out (acc ++ [10]) ty)
                  simp at h1 ⊢
                  omega
                have HLEN : Hid (n1 - (iv + 1) = (r'.take 1).length + (r'.drop 1).length) := by show _ = _; have e1 := HNL.out; have e2 := HN1E.out; simp only [List.length_take, List.length_drop, List.length_cons] at e1 e2 ⊢; omega
                have HLEN2 : Hid (1 = (r'.take 1).length ∨ n1 - (iv + 1) = 0) := by
                  show _ ∨ _
                  have e1 := HNL.out
                  have e2 := HN1E.out
                  try simp only [List.length_cons] at e1 e2
                  rcases Nat.eq_zero_or_pos r'.length with h | h
                  · exact .inr (by omega)
                  · exact .inl (by rw [List.length_take]; omega)
                have HWR : Hid (∀ w', w'.heap[B]? = w2.heap[B]? → WB B i0 k raw (r'.take 1 ++ r'.drop 1) (AO2) w') := fun w' hb => by
                  rw [List.take_append_drop]
                  have h1 := HW2.out.same hb
                  by_cases e : cp' = iv + 1
                  · have : r' = [] := List.eq_nil_of_length_eq_zero (by have := HN1E.out; simp at this; omega)
                    rw [this]; exact h1.nil _
                  · rw [hAO2, if_neg e]
                    have h2 := h1.drop (acc.length + 1)
                    rw [show (acc ++ 10 :: r').drop (acc.length + 1) = r' by rw [List.drop_append]; simp, ← HIV.out] at h2
                    exact h2
                clear hrd hc hAO2
                go_wp2_with fail
                refine HCL.out.mono ?_
                rintro en w1 ⟨v, rfl, hcl⟩
                obtain ⟨p1, n2', c1, rfl⟩ := cloned_form hcl
                have HCLN := Lib.hid hcl
                clear hcl HCL
                go_wp2_with fail
                refine (out_call HC2b.out HCLN.out ty HN1.out HL1.out).mono ?_
                rintro en w3 ⟨rfl, hC3, hS3, hB3⟩
                have HB3 := Lib.hid hB3
                have HS3 := Lib.hid hS3
                have c17 := hC3.cells 17 _ rfl
                have f17 := hC3.fr 17
                have HC4 := Lib.hid (hC3.setErr false)
                clear hB3 hS3 hC3
                go_wp2_with fail
                go_roundw
                case rel =>
                  exact ⟨{ emit s' (.out (acc ++ [10]) ty) with mErr := false }, [], r'.take 1, r'.drop 1, q - 1, AO2, n1 - (iv + 1), cp' - (iv + 1), 1, rfl, rfl, rfl, by omega, by omega, by omega, ⟨HLEN.out, HLEN2.out.imp id (fun h => ⟨h, rfl⟩)⟩, HC4.out.1, ((HSM.out.trans HS2.out).trans HS3.out).trans HC4.out.2, HWR.out _ ((Below.heap_setCell w3 ⟨cf.c, 17, none⟩ (.bool false) B HBC.out).trans HB3.out), HQ2, HEV2⟩
                case measure => simp [intOf]; omega
              · have HRH : Hid (r.head? ≠ some 10) := hh10
                clear hh10
                by_cases hlt : (iv : Int) < (n1 : Int)
                · obtain ⟨m2, hm2⟩ : ∃ m2, m2 = ((acc ++ r).getD acc.length 0).toNat := ⟨_, rfl⟩
                  have hcell : w2.cell? ⟨B, o + iv, none⟩ = some (.int .u8 m2) := by
                    have := HW2.out.cell (j := acc.length) (by have := HN1E.out; have := HIV.out; simp; omega)
                    rw [← hm2, ← HIV.out] at this
                    exact this
                  have t10 : ((m2 : Int) == 10) = false := by
                    have : m2 ≠ 10 := fun e => by
                      have h1 : 0 < r.length := by have := HN1E.out; omega
                      cases r with
                      | nil => simp at h1
                      | cons d r' =>
                        rw [getD_mid] at hm2
                        refine HRH.out ?_
                        rw [hm2] at e
                        have : d = 10 := UInt8.toNat_inj.1 e
                        rw [this]; rfl
                    simp; omega
                  clear hm2
                  have hrd : Rd w2 B o (acc) := by
                    have h1 := HW2.out.rd.take acc.length
                    rw [show (acc ++ r).take acc.length = acc by simp] at h1
                    exact h1
                  have HCL := Lib.hid (clone_any hrd (iv) cp' (by have := HIV.out; first | omega | (simp; omega)) (by omega))
                  have HN1 : Hid (s'.evs.length ≤ 100000000) := by show _ ≤ _; have := HEV.out; have := HN.out; omega
                  have HL1 : Hid ((acc).length ≤ 140737488351232) := by show _ ≤ _; have := HIV.out; first | omega | (simp; omega)
                  have HC2b := HC2
                  have HQ2 : Hid ((r.drop 1).length ≤ q - 1 ∧ woL k s ty0 [] l = woL (q - 1) { emit s' (.out (acc) ty) with mErr := false } [] (r.take 1) (r.drop 1)) := by
                    refine ⟨by have := HQ.out.1; simp at this ⊢; omega, HQ.out.2.trans ?_⟩
                    have h1 := HQ.out.1
                    rw [hc] at h1 ⊢
                    exact woL_14 HE.out.symm HRH.out h1
                  have HEV2 : Hid ((emit s' (.out (acc) ty)).evs.length + (r.drop 1).length ≤ s.evs.length + k) := by
                    show _ ≤ _
                    have h1 := HEV.out
                    have h2 := emit_len s' (.out (acc) ty)
                    simp at h1 ⊢
                    omega
                  have HLEN : Hid (n1 - iv = (r.take 1).length + (r.drop 1).length) := by show _ = _; have e1 := HNL.out; have e2 := HN1E.out; simp only [List.length_take, List.length_drop]; omega
                  have HLEN2 : Hid (1 = (r.take 1).length ∨ n1 - iv = 0) := by
                    show _ ∨ _
                    have e1 := HNL.out
                    have e2 := HN1E.out
                    try simp only [List.length_cons] at e1 e2
                    rcases Nat.eq_zero_or_pos r.length with h | h
                    · exact .inr (by omega)
                    · exact .inl (by rw [List.length_take]; omega)
                  have HWR : Hid (∀ w', w'.heap[B]? = w2.heap[B]? → WB B i0 k raw (r.take 1 ++ r.drop 1) (o + iv) w') := fun w' hb => by
                    rw [List.take_append_drop]
                    have h2 := (HW2.out.same hb).drop acc.length
                    rw [show (acc ++ r).drop acc.length = r by simp, ← HIV.out] at h2
                    exact h2
                  clear hrd hc
                  go_wp2_with fail
                  refine HCL.out.mono ?_
                  rintro en w1 ⟨v, rfl, hcl⟩
                  obtain ⟨p1, n2', c1, rfl⟩ := cloned_form hcl
                  have HCLN := Lib.hid hcl
                  clear hcl HCL
                  go_wp2_with fail
                  refine (out_call HC2b.out HCLN.out ty HN1.out HL1.out).mono ?_
                  rintro en w3 ⟨rfl, hC3, hS3, hB3⟩
                  have HB3 := Lib.hid hB3
                  have HS3 := Lib.hid hS3
                  have c17 := hC3.cells 17 _ rfl
                  have f17 := hC3.fr 17
                  have HC4 := Lib.hid (hC3.setErr false)
                  clear hB3 hS3 hC3
                  go_wp2_with fail
                  go_roundw
                  case rel =>
                    exact ⟨{ emit s' (.out (acc) ty) with mErr := false }, [], r.take 1, r.drop 1, q - 1, o + iv, n1 - iv, cp' - iv, 1, rfl, rfl, rfl, by omega, by omega, by omega, ⟨HLEN.out, HLEN2.out.imp id (fun h => ⟨h, rfl⟩)⟩, HC4.out.1, ((HSM.out.trans HS2.out).trans HS3.out).trans HC4.out.2, HWR.out _ ((Below.heap_setCell w3 ⟨cf.c, 17, none⟩ (.bool false) B HBC.out).trans HB3.out), HQ2, HEV2⟩
                  case measure => simp [intOf]; omega
                · have hrd : Rd w2 B o (acc) := by
                    have h1 := HW2.out.rd.take acc.length
                    rw [show (acc ++ r).take acc.length = acc by simp] at h1
                    exact h1
                  have HCL := Lib.hid (clone_any hrd (iv) cp' (by have := HIV.out; first | omega | (simp; omega)) (by omega))
                  have HN1 : Hid (s'.evs.length ≤ 100000000) := by show _ ≤ _; have := HEV.out; have := HN.out; omega
                  have HL1 : Hid ((acc).length ≤ 140737488351232) := by show _ ≤ _; have := HIV.out; first | omega | (simp; omega)
                  have HC2b := HC2
                  have HQ2 : Hid ((r.drop 1).length ≤ q - 1 ∧ woL k s ty0 [] l = woL (q - 1) { emit s' (.out (acc) ty) with mErr := false } [] (r.take 1) (r.drop 1)) := by
                    refine ⟨by have := HQ.out.1; simp at this ⊢; omega, HQ.out.2.trans ?_⟩
                    have h1 := HQ.out.1
                    rw [hc] at h1 ⊢
                    exact woL_14 HE.out.symm HRH.out h1
                  have HEV2 : Hid ((emit s' (.out (acc) ty)).evs.length + (r.drop 1).length ≤ s.evs.length + k) := by
                    show _ ≤ _
                    have h1 := HEV.out
                    have h2 := emit_len s' (.out (acc) ty)
                    simp at h1 ⊢
                    omega
                  have HLEN : Hid (n1 - iv = (r.take 1).length + (r.drop 1).length) := by show _ = _; have e1 := HNL.out; have e2 := HN1E.out; simp only [List.length_take, List.length_drop]; omega
                  have HLEN2 : Hid (1 = (r.take 1).length ∨ n1 - iv = 0) := by
                    show _ ∨ _
                    have e1 := HNL.out
                    have e2 := HN1E.out
                    try simp only [List.length_cons] at e1 e2
                    rcases Nat.eq_zero_or_pos r.length with h | h
                    · exact .inr (by omega)
                    · exact .inl (by rw [List.length_take]; omega)
                  have HWR : Hid (∀ w', w'.heap[B]? = w2.heap[B]? → WB B i0 k raw (r.take 1 ++ r.drop 1) (o + iv) w') := fun w' hb => by
                    rw [List.take_append_drop]
                    have h2 := (HW2.out.same hb).drop acc.length
                    rw [show (acc ++ r).drop acc.length = r by simp, ← HIV.out] at h2
                    exact h2
                  clear hrd hc
                  go_wp2_with fail
                  refine HCL.out.mono ?_
                  rintro en w1 ⟨v, rfl, hcl⟩
                  obtain ⟨p1, n2', c1, rfl⟩ := cloned_form hcl
                  have HCLN := Lib.hid hcl
                  clear hcl HCL
                  go_wp2_with fail
                  refine (out_call HC2b.out HCLN.out ty HN1.out HL1.out).mono ?_
                  rintro en w3 ⟨rfl, hC3, hS3, hB3⟩
                  have HB3 := Lib.hid hB3
                  have HS3 := Lib.hid hS3
                  have c17 := hC3.cells 17 _ rfl
                  have f17 := hC3.fr 17
                  have HC4 := Lib.hid (hC3.setErr false)
                  clear hB3 hS3 hC3
                  go_wp2_with fail
                  go_roundw
                  case rel =>
                    exact ⟨{ emit s' (.out (acc) ty) with mErr := false }, [], r.take 1, r.drop 1, q - 1, o + iv, n1 - iv, cp' - iv, 1, rfl, rfl, rfl, by omega, by omega, by omega, ⟨HLEN.out, HLEN2.out.imp id (fun h => ⟨h, rfl⟩)⟩, HC4.out.1, ((HSM.out.trans HS2.out).trans HS3.out).trans HC4.out.2, HWR.out _ ((Below.heap_setCell w3 ⟨cf.c, 17, none⟩ (.bool false) B HBC.out).trans HB3.out), HQ2, HEV2⟩
                  case measure => simp [intOf]; omega
            · have t14 : ((m : Int) == 14) = false := by simp; omega
              have C14 := Lib.hid c14
              clear c14 HI5 HZ51
              go_wp2_with fail
              go_roundw
              case rel =>
                refine ⟨s', ty, acc ++ [c], r, q - 1, o, n, cp', iv + 1, rfl, rfl, by go_num, hncp, hcp', by omega, ⟨by have := HNL.out; have := HIV.out; simp; omega, .inl (by have := HIV.out; simp; omega)⟩, HC, HSM, ?_, ⟨by have := HQ.out.1; simp at this ⊢; omega, HQ.out.2.trans (woL_else HE.out.symm (fun hh => C27.out ((HX.out 27).1 hh)) (fun hh => C15.out ((HX.out 15).1 hh)) (fun hh => C14.out ((HX.out 14).1 hh)) HQ.out.1)⟩, by show _ ≤ _; have := HEV.out; simp at this ⊢; omega⟩
                rw [List.append_assoc]; exact HWB.out
              case measure => simp [intOf]; omega
    · have hre : rest = [] := by
        have h1 := HI.out
        apply List.eq_nil_of_length_eq_zero
        rcases h1.2 with h2 | h2 <;> omega
      subst hre
      have HI2 := HI.out
      have hna : n = acc.length := by simpa using HI.out.1
      subst hna
      have e1 := HQ.out.2
      rw [woL_nil] at e1
      have hwb := HWB.out
      rw [List.append_nil] at hwb
      have hev := HEV.out
      have HHK : Hid (∀ f : Act, (∃ u1 u4 u5 u6 u7 u16 u17 u18 u19 u20 u21 u22 u23 u24 u25 u26 u27 u28 u29 u30 u31 u32 u33 u34 u35 u36 u37 u38 u39 u40 u41 u42 u43 u44 u45 u46 u47 u48 u49 u50 u51 u52 u53 u54 u55 u56 u57 u58 u59 u60 u61 u62 u63 u64 u65 u66 u67 u68 u69 u70 u71 u72 u73 u74 u75 u76 u77 u78 u79 u80 u81 u82 u83 u84 u85 u86 u87 u88 u89 u90 u91 u92 u93 u94 u95 u96 u97 u98 u99 u100 u101 u102 u103 u104 u105 u106 u107 : Value, u1 = .slice (some ⟨B, o, none⟩) acc.length cp' ∧ u4 = .string (S ty) ∧ f = ⟨#[.pointer (some ⟨cf.c, 0, none⟩), u1, d2, d3, u4, u5, u6, u7, d8, d9, d10, d11, d12, d13, d14, d15, u16, u17, u18, u19, u20, u21, u22, u23, u24, u25, u26, u27, u28, u29, u30, u31, u32, u33, u34, u35, u36, u37, u38, u39, u40, u41, u42, u43, u44, u45, u46, u47, u48, u49, u50, u51, u52, u53, u54, u55, u56, u57, u58, u59, u60, u61, u62, u63, u64, u65, u66, u67, u68, u69, u70, u71, u72, u73, u74, u75, u76, u77, u78, u79, u80, u81, u82, u83, u84, u85, u86, u87, u88, u89, u90, u91, u92, u93, u94, u95, u96, u97, u98, u99, u100, u101, u102, u103, u104, u105, u106, u107, d108, d109, d110, d111, d112, d113, d114, d115, d116, d117], []⟩) → Q .normal f wr) := fun f ⟨u1, u4, u5, u6, u7, u16, u17, u18, u19, u20, u21, u22, u23, u24, u25, u26, u27, u28, u29, u30, u31, u32, u33, u34, u35, u36, u37, u38, u39, u40, u41, u42, u43, u44, u45, u46, u47, u48, u49, u50, u51, u52, u53, u54, u55, u56, u57, u58, u59, u60, u61, u62, u63, u64, u65, u66, u67, u68, u69, u70, u71, u72, u73, u74, u75, u76, u77, u78, u79, u80, u81, u82, u83, u84, u85, u86, u87, u88, u89, u90, u91, u92, u93, u94, u95, u96, u97, u98, u99, u100, u101, u102, u103, u104, u105, u106, u107, h1, h4, hf⟩ => by
        subst hf
        exact HK.out u1 u4 u5 u6 u7 u16 u17 u18 u19 u20 u21 u22 u23 u24 u25 u26 u27 u28 u29 u30 u31 u32 u33 u34 u35 u36 u37 u38 u39 u40 u41 u42 u43 u44 u45 u46 u47 u48 u49 u50 u51 u52 u53 u54 u55 u56 u57 u58 u59 u60 u61 u62 u63 u64 u65 u66 u67 u68 u69 u70 u71 u72 u73 u74 u75 u76 u77 u78 u79 u80 u81 u82 u83 u84 u85 u86 u87 u88 u89 u90 u91 u92 u93 u94 u95 u96 u97 u98 u99 u100 u101 u102 u103 u104 u105 u106 u107 s' ty acc o cp' wr h1 h4 hncp hcp' e1 (by simpa using hev) HC.out HSM.out hwb
      clear HI2 e1 hwb hev
      go_wp2_with fail
      refine HHK.out _ ⟨_, _, _, _, _, _, _, _, _, _, _, _, _, _, _, _, _, _, _, _, _, _, _, _, _, _, _, _, _, _, _, _, _, _, _, _, _, _, _, _, _, _, _, _, _, _, _, _, _, _, _, _, _, _, _, _, _, _, _, _, _, _, _, _, _, _, _, _, _, _, _, _, _, _, _, _, _, _, _, _, _, _, _, _, _, _, _, _, _, _, _, _, _, _, _, _, _, rfl, rfl, rfl⟩

end Go.Proofs.YtdljobmhnnegiaaDoor
