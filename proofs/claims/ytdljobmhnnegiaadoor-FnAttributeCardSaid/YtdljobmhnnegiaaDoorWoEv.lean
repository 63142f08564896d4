/- writeOutputEvent (function 53). -/
import Derived.Test.YtdljobmhnnegiaaDoorWo
namespace Go.Proofs.YtdljobmhnnegiaaDoor
open Go.RowKit

def WoPost (cf : Cf) (B : Nat) (xm : List Nat) (tp : List (Nat × Obj)) (s : CS) (i0 k : Nat) (raw : Array Value) (w : World) (en : Ending) (w' : World) : Prop :=
  en = .returned (.tuple #[]) ∧ Core cf (B :: xm) tp s w' ∧ Same615 cf.c w w' ∧ WB B i0 k raw [] 0 w'

theorem woT_ff {s : CS} (h : s.framing = true) : woT s = [102, 114, 97, 109, 101] := by unfold woT; rw [if_pos h]
theorem woT_err {s : CS} (h : s.framing = false) (h2 : s.mErr = true) : woT s = [101, 114, 114, 111, 114, 45, 99, 111, 110, 116, 105, 110, 117, 101] := by unfold woT; rw [if_neg (by rw [h]; simp), if_pos h2]
theorem woT_no {s : CS} (h : s.framing = false) (h2 : s.mErr = false) : woT s = [] := by unfold woT; rw [if_neg (by rw [h]; simp), if_neg (by rw [h2]; simp)]

set_option maxRecDepth 100000 in
set_option maxHeartbeats 40000000 in
theorem woEv_any {cf : Cf} {B : Nat} {xm : List Nat} {tp : List (Nat × Obj)} {s : CS} {w : World} {i0 k cp : Nat} {raw : Array Value} {l : List UInt8} (h : Core cf (B :: xm) tp s w) (hw : WB B i0 k raw l i0 w) (hsz : raw.size = 1024) (hk : k = l.length) (hik : i0 + k ≤ 1024)
    (hcp : k ≤ cp) (hcp2 : cp ≤ 1024) (hn : s.evs.length + k + 1 ≤ 100000000) :
    Calls Tryd.prog 53 #[.pointer (some ⟨cf.c, 0, none⟩), .slice (some ⟨B, i0, none⟩) k cp] w (WoPost cf B xm tp (woF s l) i0 k raw w) := by
  have HC := Lib.hid h
  have HW := Lib.hid hw
  have HKL := Lib.hid hk
  have HN := Lib.hid hn
  have HSZ := Lib.hid hsz
  have HIK := Lib.hid hik
  have HCP := Lib.hid hcp
  have HCP2 := Lib.hid hcp2
  have c17 := h.cells 17 _ rfl
  have c19 := h.cells 19 _ rfl
  have HTAIL : Hid (∀ ty0, woT s = ty0 → ∀ (s' : CS) (ty acc : List UInt8), woL k s ty0 [] l = emitN s' acc ty → woF s l = emitN s' acc ty) := fun ty0 h0 s' ty acc he => by unfold woF; rw [← HKL.out, h0]; exact he
  clear h hw hk hn hsz hik
  obtain ⟨E, hE⟩ : ∃ E, E = s.framing := ⟨_, rfl⟩
  obtain ⟨F, hF⟩ : ∃ F, F = s.mErr := ⟨_, rfl⟩
  have c17' : w.cell? ⟨cf.c, 17, none⟩ = some (.bool F) := by rw [hF]; exact c17
  have c19' : w.cell? ⟨cf.c, 19, none⟩ = some (.bool E) := by rw [hE]; exact c19
  have HE := Lib.hid hE
  have HF := Lib.hid hF
  clear c17 c19 hE hF
  cases E with
  | true =>
    have HT : Hid (woT s = [102, 114, 97, 109, 101]) := woT_ff HE.out.symm
    go_enter Tryd.func53, Tryd.ntmps53
    go_upto_block 0 with fail
    refine wo_loop (ty0 := [102, 114, 97, 109, 101]) HC.out HW.out HSZ.out HKL.out HIK.out HCP.out HCP2.out HN.out _ _ _ _ _ _ _ _ _ _ _ _ _ _ _ _ _ _ _ _ _ _ _ _ _ _ _ _ _ _ _ _ _ _ _ _ _ _ _ _ _ _ _ _ _ _ _ _ _ _ _ _ _ _ _ _ _ _ _ _ _ _ _ _ _ _ _ _ _ _ _ _ _ _ _ _ _ _ _ _ _ _ _ _ _ _ _ _ _ _ _ _ _ _ _ _ _ _ _ _ _ _ _ _ _ _ _ _ _ _ _ _ _ _ _ ?_
    intro u1 u4 u5 u6 u7 u16 u17 u18 u19 u20 u21 u22 u23 u24 u25 u26 u27 u28 u29 u30 u31 u32 u33 u34 u35 u36 u37 u38 u39 u40 u41 u42 u43 u44 u45 u46 u47 u48 u49 u50 u51 u52 u53 u54 u55 u56 u57 u58 u59 u60 u61 u62 u63 u64 u65 u66 u67 u68 u69 u70 u71 u72 u73 u74 u75 u76 u77 u78 u79 u80 u81 u82 u83 u84 u85 u86 u87 u88 u89 u90 u91 u92 u93 u94 u95 u96 u97 u98 u99 u100 u101 u102 u103 u104 u105 u106 u107 s' ty acc o cp' w' hu1 hu4 hcc hc2 hend hev hC hS hwb
    subst hu1
    subst hu4
    have HWO := Lib.hid (HTAIL.out _ HT.out s' ty acc hend)
    have HC1 := Lib.hid hC
    have HS1 := Lib.hid hS
    have HWB := Lib.hid hwb
    have HEV := Lib.hid hev
    obtain ⟨n, hn⟩ : ∃ n, n = acc.length := ⟨_, rfl⟩
    rw [← hn] at hcc ⊢
    have HNA := Lib.hid hn
    clear hC hS hwb hev hn hend c17' c19'
    dsimp only
    by_cases h0 : (0 : Int) < (n : Int)
    · have HCL := Lib.hid (clone_any HWB.out.rd n cp' HNA.out (by omega))
      have HN1 : Hid (s'.evs.length ≤ 100000000) := by show _ ≤ _; have := HEV.out; have := HN.out; omega
      have HL1 : Hid (acc.length ≤ 140737488351232) := by show _ ≤ _; rw [← HNA.out]; omega
      have HEM : Hid (emitN s' acc ty = emit s' (.out acc ty)) := by show _ = _; unfold emitN; rw [if_neg (fun hh => by have := HNA.out; rw [hh] at this; simp at this; omega)]
      go_wp2_with fail
      refine HCL.out.mono ?_
      rintro en w1 ⟨v, rfl, hcl⟩
      obtain ⟨p1, n1, c1, rfl⟩ := cloned_form hcl
      have HCLN := Lib.hid hcl
      clear hcl HCL
      go_wp2_with fail
      refine (out_call HC1.out HCLN.out ty HN1.out HL1.out).mono ?_
      rintro en w3 ⟨rfl, hC3, hS3, hB3⟩
      have HE3 : Hid (WoPost cf B xm tp (woF s l) i0 k raw w (.returned (.tuple #[])) w3) := by
        refine ⟨rfl, ?_, HS1.out.trans hS3, (HWB.out.same hB3).nil _⟩
        rw [HWO.out, HEM.out]; exact hC3
      clear hC3 hS3 hB3
      go_wp2_with fail
      go_end0
      exact HE3.out
    · have HEM : Hid (emitN s' acc ty = s') := by show _ = _; unfold emitN; rw [if_pos (List.eq_nil_of_length_eq_zero (by have := HNA.out; omega))]
      go_wp2_with fail
      go_end0
      exact ⟨rfl, by rw [HWO.out, HEM.out]; exact HC1.out, HS1.out, HWB.out.nil _⟩
  | false =>
    cases F with
    | true =>
      have HT : Hid (woT s = [101, 114, 114, 111, 114, 45, 99, 111, 110, 116, 105, 110, 117, 101]) := woT_err HE.out.symm HF.out.symm
      go_enter Tryd.func53, Tryd.ntmps53
      go_upto_block 0 with fail
      refine wo_loop (ty0 := [101, 114, 114, 111, 114, 45, 99, 111, 110, 116, 105, 110, 117, 101]) HC.out HW.out HSZ.out HKL.out HIK.out HCP.out HCP2.out HN.out _ _ _ _ _ _ _ _ _ _ _ _ _ _ _ _ _ _ _ _ _ _ _ _ _ _ _ _ _ _ _ _ _ _ _ _ _ _ _ _ _ _ _ _ _ _ _ _ _ _ _ _ _ _ _ _ _ _ _ _ _ _ _ _ _ _ _ _ _ _ _ _ _ _ _ _ _ _ _ _ _ _ _ _ _ _ _ _ _ _ _ _ _ _ _ _ _ _ _ _ _ _ _ _ _ _ _ _ _ _ _ _ _ _ _ ?_
      intro u1 u4 u5 u6 u7 u16 u17 u18 u19 u20 u21 u22 u23 u24 u25 u26 u27 u28 u29 u30 u31 u32 u33 u34 u35 u36 u37 u38 u39 u40 u41 u42 u43 u44 u45 u46 u47 u48 u49 u50 u51 u52 u53 u54 u55 u56 u57 u58 u59 u60 u61 u62 u63 u64 u65 u66 u67 u68 u69 u70 u71 u72 u73 u74 u75 u76 u77 u78 u79 u80 u81 u82 u83 u84 u85 u86 u87 u88 u89 u90 u91 u92 u93 u94 u95 u96 u97 u98 u99 u100 u101 u102 u103 u104 u105 u106 u107 s' ty acc o cp' w' hu1 hu4 hcc hc2 hend hev hC hS hwb
      subst hu1
      subst hu4
      have HWO := Lib.hid (HTAIL.out _ HT.out s' ty acc hend)
      have HC1 := Lib.hid hC
      have HS1 := Lib.hid hS
      have HWB := Lib.hid hwb
      have HEV := Lib.hid hev
      obtain ⟨n, hn⟩ : ∃ n, n = acc.length := ⟨_, rfl⟩
      rw [← hn] at hcc ⊢
      have HNA := Lib.hid hn
      clear hC hS hwb hev hn hend c17' c19'
      dsimp only
      by_cases h0 : (0 : Int) < (n : Int)
      · have HCL := Lib.hid (clone_any HWB.out.rd n cp' HNA.out (by omega))
        have HN1 : Hid (s'.evs.length ≤ 100000000) := by show _ ≤ _; have := HEV.out; have := HN.out; omega
        have HL1 : Hid (acc.length ≤ 140737488351232) := by show _ ≤ _; rw [← HNA.out]; omega
        have HEM : Hid (emitN s' acc ty = emit s' (.out acc ty)) := by show _ = _; unfold emitN; rw [if_neg (fun hh => by have := HNA.out; rw [hh] at this; simp at this; omega)]
        go_wp2_with fail
        refine HCL.out.mono ?_
        rintro en w1 ⟨v, rfl, hcl⟩
        obtain ⟨p1, n1, c1, rfl⟩ := cloned_form hcl
        have HCLN := Lib.hid hcl
        clear hcl HCL
        go_wp2_with fail
        refine (out_call HC1.out HCLN.out ty HN1.out HL1.out).mono ?_
        rintro en w3 ⟨rfl, hC3, hS3, hB3⟩
        have HE3 : Hid (WoPost cf B xm tp (woF s l) i0 k raw w (.returned (.tuple #[])) w3) := by
          refine ⟨rfl, ?_, HS1.out.trans hS3, (HWB.out.same hB3).nil _⟩
          rw [HWO.out, HEM.out]; exact hC3
        clear hC3 hS3 hB3
        go_wp2_with fail
        go_end0
        exact HE3.out
      · have HEM : Hid (emitN s' acc ty = s') := by show _ = _; unfold emitN; rw [if_pos (List.eq_nil_of_length_eq_zero (by have := HNA.out; omega))]
        go_wp2_with fail
        go_end0
        exact ⟨rfl, by rw [HWO.out, HEM.out]; exact HC1.out, HS1.out, HWB.out.nil _⟩
    | false =>
      have HT : Hid (woT s = []) := woT_no HE.out.symm HF.out.symm
      go_enter Tryd.func53, Tryd.ntmps53
      go_upto_block 0 with fail
      refine wo_loop (ty0 := []) HC.out HW.out HSZ.out HKL.out HIK.out HCP.out HCP2.out HN.out _ _ _ _ _ _ _ _ _ _ _ _ _ _ _ _ _ _ _ _ _ _ _ _ _ _ _ _ _ _ _ _ _ _ _ _ _ _ _ _ _ _ _ _ _ _ _ _ _ _ _ _ _ _ _ _ _ _ _ _ _ _ _ _ _ _ _ _ _ _ _ _ _ _ _ _ _ _ _ _ _ _ _ _ _ _ _ _ _ _ _ _ _ _ _ _ _ _ _ _ _ _ _ _ _ _ _ _ _ _ _ _ _ _ _ ?_
      intro u1 u4 u5 u6 u7 u16 u17 u18 u19 u20 u21 u22 u23 u24 u25 u26 u27 u28 u29 u30 u31 u32 u33 u34 u35 u36 u37 u38 u39 u40 u41 u42 u43 u44 u45 u46 u47 u48 u49 u50 u51 u52 u53 u54 u55 u56 u57 u58 u59 u60 u61 u62 u63 u64 u65 u66 u67 u68 u69 u70 u71 u72 u73 u74 u75 u76 u77 u78 u79 u80 u81 u82 u83 u84 u85 u86 u87 u88 u89 u90 u91 u92 u93 u94 u95 u96 u97 u98 u99 u100 u101 u102 u103 u104 u105 u106 u107 s' ty acc o cp' w' hu1 hu4 hcc hc2 hend hev hC hS hwb
      subst hu1
      subst hu4
      have HWO := Lib.hid (HTAIL.out _ HT.out s' ty acc hend)
      have HC1 := Lib.hid hC
      have HS1 := Lib.hid hS
      have HWB := Lib.hid hwb
      have HEV := Lib.hid hev
      obtain ⟨n, hn⟩ : ∃ n, n = acc.length := ⟨_, rfl⟩
      rw [← hn] at hcc ⊢
      have HNA := Lib.hid hn
      clear hC hS hwb hev hn hend c17' c19'
      dsimp only
      by_cases h0 : (0 : Int) < (n : Int)
      · have HCL := Lib.hid (clone_any HWB.out.rd n cp' HNA.out (by omega))
        have HN1 : Hid (s'.evs.length ≤ 100000000) := by show _ ≤ _; have := HEV.out; have := HN.out; omega
        have HL1 : Hid (acc.length ≤ 140737488351232) := by show _ ≤ _; rw [← HNA.out]; omega
        have HEM : Hid (emitN s' acc ty = emit s' (.out acc ty)) := by show _ = _; unfold emitN; rw [if_neg (fun hh => by have := HNA.out; rw [hh] at this; simp at this; omega)]
        go_wp2_with fail
        refine HCL.out.mono ?_
        rintro en w1 ⟨v, rfl, hcl⟩
        obtain ⟨p1, n1, c1, rfl⟩ := cloned_form hcl
        have HCLN := Lib.hid hcl
        clear hcl HCL
        go_wp2_with fail
        refine (out_call HC1.out HCLN.out ty HN1.out HL1.out).mono ?_
        rintro en w3 ⟨rfl, hC3, hS3, hB3⟩
        have HE3 : Hid (WoPost cf B xm tp (woF s l) i0 k raw w (.returned (.tuple #[])) w3) := by
          refine ⟨rfl, ?_, HS1.out.trans hS3, (HWB.out.same hB3).nil _⟩
          rw [HWO.out, HEM.out]; exact hC3
        clear hC3 hS3 hB3
        go_wp2_with fail
        go_end0
        exact HE3.out
      · have HEM : Hid (emitN s' acc ty = s') := by show _ = _; unfold emitN; rw [if_pos (List.eq_nil_of_length_eq_zero (by have := HNA.out; omega))]
        go_wp2_with fail
        go_end0
        exact ⟨rfl, by rw [HWO.out, HEM.out]; exact HC1.out, HS1.out, HWB.out.nil _⟩

end Go.Proofs.YtdljobmhnnegiaaDoor
