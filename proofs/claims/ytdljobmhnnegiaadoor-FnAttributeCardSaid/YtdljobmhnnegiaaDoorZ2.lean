/- Function 52 whole; the plain laws of what it keeps; the other methods of the converter; the first state. -/
import Derived.Test.YtdljobmhnnegiaaDoorInvLaw
import Derived.Test.YtdljobmhnnegiaaDoorZ1
import Derived.Laws.CopyOwn
import Derived.Laws.Tables

/- How many events may yet come. -/
namespace Go.Proofs.YtdljobmhnnegiaaDoor

theorem woF_len2 (s : CS) (l : List UInt8) : (woF s l).evs.length ≤ s.evs.length + 2 * l.length := by
  by_cases h : l = []
  · subst h
    have : woF s [] = s := rfl
    rw [this]; omega
  · have := woF_len s l
    have := List.length_pos_iff.2 h
    omega
theorem outW_pe (s : CS) (l : List UInt8) : pe (outW s l) ≤ pe s + 2 * l.length := by
  have he := outW_eq s l
  have ht := writeF_tot (pot := (Prod.snd : CS × Nat → Nat)) (L := woS) (P := woS) (fun _ _ => rfl) (fun _ _ => rfl) 1024 l.length s.out (s, 0) l
  have hst : ∀ (x : CS × Nat) (y : List UInt8), x.1.evs.length ≤ s.evs.length + 2 * x.2 → (woS x y).1.evs.length ≤ s.evs.length + 2 * (woS x y).2 := by
    intro x y h
    have := woF_len2 x.1 y
    unfold woS
    dsimp only
    omega
  have hk := writeF_keep (L := woS) (P := woS) (I := fun x : CS × Nat => x.1.evs.length ≤ s.evs.length + 2 * x.2) hst hst 1024 l.length (s.out, (s, 0)) l (by dsimp only; omega)
  unfold pe
  rw [← he.2]
  rw [he.1] at ht
  dsimp only at ht hk ⊢
  omega
theorem outFl_pe (s : CS) : pe (outFl s) ≤ pe s := by
  unfold outFl flushF pe
  split
  · exact Nat.le_refl _
  · have := woF_len2 s s.out.bs
    dsimp only
    simp only [List.length_nil]
    omega
theorem outW_nil (s : CS) : outW s [] = s := rfl

/-- What may yet come: events, pending reports too. -/
def Phi (s : CS) : Nat := pe s + s.report.length
theorem Phi_outW (s : CS) (l : List UInt8) : Phi (outW s l) ≤ Phi s + 2 * l.length := by
  have := outW_pe s l
  unfold Phi
  rw [(outW_kept s l).report]
  omega
theorem Phi_outFl (s : CS) : Phi (outFl s) ≤ Phi s := by
  have := outFl_pe s
  unfold Phi
  rw [(outFl_kept s).report]
  omega
theorem Phi_frameF (s : CS) (l : List UInt8) : Phi (frameF s l) ≤ Phi s + 2 * l.length := by
  have := Phi_outW { s with framing := true } l
  exact this
theorem Phi_flushRep (s : CS) (d : Nat) : Phi (flushRep s d) ≤ Phi s := by
  unfold flushRep Phi pe
  simp only [List.length_take, List.length_append, List.length_map, List.length_reverse, List.length_drop]
  omega
theorem Phi_emit (s : CS) (e : Ev) : Phi (emit s e) ≤ Phi s + 1 := by
  have := emit_len s e
  unfold Phi pe at *
  rw [this]
  show _ + 2 * s.out.bs.length + s.report.length ≤ _
  omega
theorem Phi_bigF (s : CS) (saw : Bool) (l tr : List UInt8) : Phi (bigF s saw l tr) ≤ Phi s + 2 * l.length :=
  Nat.le_trans (Phi_frameF _ l) (Nat.add_le_add_right (Phi_flushRep s 0) _)
theorem Phi_repF (s : CS) (saw : Bool) (o a nm : List UInt8) (d : Nat) : Phi (repF s saw o a nm d) ≤ Phi s + 2 * o.length + 1 := by
  unfold repF
  split
  · have := Phi_outW s o; omega
  · refine Nat.le_trans (Phi_frameF _ o) ?_
    have h := Phi_flushRep { s with mFraming := saw } d
    have h2 : Phi { s with mFraming := saw } = Phi s := rfl
    unfold Phi pe at h h2 ⊢
    dsimp only at h h2 ⊢
    rw [List.length_append]
    simp only [List.length_cons, List.length_nil]
    omega
theorem Phi_updF (s : CS) (saw : Bool) (o a nm : List UInt8) : Phi (updF s saw o a nm) ≤ Phi s + 2 * o.length + 1 := by
  unfold updF updG
  have h := Phi_flushRep { s with mFraming := saw } 0
  have h2 : Phi { s with mFraming := saw } = Phi s := rfl
  rw [h2] at h
  split
  · show Phi (flushRep _ 0) ≤ _
    omega
  · split
    · refine Nat.le_trans (Phi_emit _ _) ?_
      have := Phi_frameF { flushRep { s with mFraming := saw } 0 with name := (updE a nm).1 } o
      have h3 : Phi { flushRep { s with mFraming := saw } 0 with name := (updE a nm).1 } = Phi (flushRep { s with mFraming := saw } 0) := rfl
      omega
    · refine Nat.le_trans (Phi_frameF _ _) ?_
      have := Phi_emit { flushRep { s with mFraming := saw } 0 with name := (updE a nm).1 } (updE a nm).2
      have h3 : Phi { flushRep { s with mFraming := saw } 0 with name := (updE a nm).1 } = Phi (flushRep { s with mFraming := saw } 0) := rfl
      omega
theorem nameAt_Phi (s : CS) (i : Nat) : Phi (nameAt s i) = Phi s := by
  unfold nameAt
  split
  · rfl
  · split <;> rfl
theorem Phi_lineHF (s : CS) (saw : Bool) (l : List UInt8) : Phi (lineHF s saw l) ≤ Phi s + 2 * l.length + 1 := by
  unfold lineHF
  split
  · exact Phi_updF _ _ _ _ _
  · split
    · exact Phi_repF _ _ _ _ _ _
    · have := Phi_outW (nameAt s (dedent l.length l 0).2) l
      rw [nameAt_Phi] at this
      omega
theorem Phi_skipF (s : CS) (l tr : List UInt8) : Phi (skipF s l tr) = Phi s := by unfold skipF; split <;> rfl
theorem trimF_len (l : List UInt8) : (trimF l).length ≤ l.length := by
  unfold trimF
  split
  · split
    · rw [List.length_dropLast, List.length_dropLast]; omega
    · rw [List.length_dropLast]; omega
  · exact Nat.le_refl _
theorem Phi_markedF (s : CS) (saw : Bool) (l : List UInt8) : Phi (markedF s saw l) ≤ Phi s + 2 * l.length + 7 := by
  obtain ⟨l2, h2⟩ : ∃ l2, l2 = if trimF l = tName then tNameLine else l := ⟨_, rfl⟩
  obtain ⟨tr, h3⟩ : ∃ tr, tr = if trimF l = tName then tNameLine.dropLast else trimF l := ⟨_, rfl⟩
  rw [markedF_eq s saw l l2 tr h2 h3]
  have hl : l2.length ≤ l.length + 3 := by
    rw [h2]
    split
    · rename_i h
      have := trimF_len l
      rw [h] at this
      have e1 : tName.length = 8 := rfl
      have e2 : tNameLine.length = 11 := rfl
      omega
    · omega
  split
  · have := Phi_bigF s saw l2 tr
    omega
  · have := Phi_lineHF (skipF s l2 tr) saw l2
    rw [Phi_skipF] at this
    omega
theorem Phi_handleF (s : CS) (l : List UInt8) : Phi (handleF s l) ≤ Phi s + 9 * l.length := by
  unfold handleF
  split
  · simp
  · rename_i c r
    split
    · have := Phi_outW s (c :: r); omega
    · split
      · have h1 := Phi_markedF (outFl s) true r
        have h2 := Phi_outFl s
        simp only [List.length_cons]
        omega
      · have h1 := Phi_markedF s false (c :: r)
        simp only [List.length_cons] at h1 ⊢
        omega

end Go.Proofs.YtdljobmhnnegiaaDoor

/- Events are only put behind: the plain laws of the start, the end, the result. -/
namespace Go.Proofs.YtdljobmhnnegiaaDoor

theorem frameF_evs (s : CS) (l : List UInt8) : s.evs <+: (frameF s l).evs := (outW_kept { s with framing := true } l).evs
theorem flushRep_evs (s : CS) (d : Nat) : s.evs <+: (flushRep s d).evs := List.prefix_append _ _
theorem emit_evs (s : CS) (e : Ev) : s.evs <+: (emit s e).evs := List.prefix_append _ _
theorem nameAt_evs (s : CS) (i : Nat) : (nameAt s i).evs = s.evs := by
  unfold nameAt
  split
  · rfl
  · split <;> rfl
theorem skipF_evs (s : CS) (l tr : List UInt8) : (skipF s l tr).evs = s.evs := by unfold skipF; split <;> rfl
theorem bigF_evs (s : CS) (saw : Bool) (l tr : List UInt8) : s.evs <+: (bigF s saw l tr).evs :=
  (flushRep_evs s 0).trans (frameF_evs { flushRep s 0 with mFraming := saw } l)
theorem repF_evs (s : CS) (saw : Bool) (o a nm : List UInt8) (d : Nat) : s.evs <+: (repF s saw o a nm d).evs := by
  unfold repF
  split
  · exact (outW_kept s o).evs
  · exact (flushRep_evs { s with mFraming := saw } d).trans (frameF_evs { flushRep { s with mFraming := saw } d with name := repN nm, report := (flushRep { s with mFraming := saw } d).report ++ [(a, repN nm)] } o)
theorem updF_evs (s : CS) (saw : Bool) (o a nm : List UInt8) : s.evs <+: (updF s saw o a nm).evs := by
  unfold updF updG
  split
  · exact flushRep_evs { s with mFraming := saw } 0
  · split
    · exact ((flushRep_evs { s with mFraming := saw } 0).trans (frameF_evs { flushRep { s with mFraming := saw } 0 with name := (updE a nm).1 } o)).trans (emit_evs _ _)
    · exact ((flushRep_evs { s with mFraming := saw } 0).trans (emit_evs { flushRep { s with mFraming := saw } 0 with name := (updE a nm).1 } (updE a nm).2)).trans (frameF_evs _ _)
theorem lineHF_evs (s : CS) (saw : Bool) (l : List UInt8) : s.evs <+: (lineHF s saw l).evs := by
  unfold lineHF
  split
  · exact updF_evs _ _ _ _ _
  · split
    · exact repF_evs _ _ _ _ _ _
    · have := (outW_kept (nameAt s (dedent l.length l 0).2) l).evs
      rw [nameAt_evs] at this
      exact this
theorem markedF_evs (s : CS) (saw : Bool) (l : List UInt8) : s.evs <+: (markedF s saw l).evs := by
  obtain ⟨l2, h2⟩ : ∃ l2, l2 = if trimF l = tName then tNameLine else l := ⟨_, rfl⟩
  obtain ⟨tr, h3⟩ : ∃ tr, tr = if trimF l = tName then tNameLine.dropLast else trimF l := ⟨_, rfl⟩
  rw [markedF_eq s saw l l2 tr h2 h3]
  split
  · exact bigF_evs _ _ _ _
  · have := lineHF_evs (skipF s l2 tr) saw l2
    rw [skipF_evs] at this
    exact this
theorem handleF_evs (s : CS) (l : List UInt8) : s.evs <+: (handleF s l).evs := by
  unfold handleF
  split
  · exact List.prefix_rfl
  · split
    · exact (outW_kept _ _).evs
    · split
      · exact (outFl_kept s).evs.trans (markedF_evs _ _ _)
      · exact markedF_evs _ _ _
theorem inW_evs (x : CI) (l : List UInt8) : x.2.evs <+: (inW x l).2.evs := by
  unfold inW
  exact writeF_keep (I := fun s : CS => x.2.evs <+: s.evs) (fun a y h => h.trans (handleF_evs a y)) (fun a y h => h.trans (outW_kept a y).evs) 4096 l.length x l List.prefix_rfl
theorem fold_evs : ∀ (ps : List (List UInt8)) (x : CI), x.2.evs <+: (ps.foldl inW x).2.evs
  | [], _ => List.prefix_rfl
  | p :: ps, x => (inW_evs x p).trans (fold_evs ps (inW x p))
theorem exitF_evs (x : CI) (e : Int) : (exitF x e).2.evs = x.2.evs := by
  unfold exitF
  dsimp only
  split
  · split <;> rfl
  · split <;> rfl
theorem failF_evs (x : CI) (f : List UInt8) : (failF x f).2.evs = x.2.evs := by
  unfold failF
  dsimp only
  split <;> rfl

/-- What is closed: what was before, what flushing told, and at most one event more. -/
theorem closeF_evs (x : CI) : x.2.evs <+: (closeF x).2.evs := by
  unfold closeF
  dsimp only
  have h1 : x.2.evs <+: (outFl (flushF outW x.1 x.2).2).evs :=
    (flushF_keep (I := fun s : CS => x.2.evs <+: s.evs) (fun a y h => h.trans (outW_kept a y).evs) List.prefix_rfl).trans (outFl_kept _).evs
  split
  · exact h1
  · exact h1.trans (emit_evs _ _)
theorem convF_start (ps : List (List UInt8)) (exit : Int) (f : List UInt8) (c : Bool) : startF.2.evs <+: convF ps exit f c := by
  have h1 : startF.2.evs <+: (failF (exitF (ps.foldl inW startF) exit) f).2.evs := by rw [failF_evs, exitF_evs]; exact fold_evs ps startF
  unfold convF
  dsimp only
  split
  · exact h1.trans (closeF_evs _)
  · exact h1

/-- Closing: the flushed state, then the last event. -/
theorem closeF_last {x : CI} (h : x.2.result ≠ []) : ∃ s, Kept x.2 s ∧ (closeF x).2.evs = s.evs ++ [{ Ev.of x.2.result s.name with fb := if x.2.result = tfail then x.2.fb else [] }] := by
  have hk : Kept x.2 (outFl (flushF outW x.1 x.2).2) :=
    (flushF_keep (I := Kept x.2) (fun a y h => h.trans (outW_kept a y)) (Kept.refl _)).trans (outFl_kept _)
  refine ⟨outFl (flushF outW x.1 x.2).2, hk, ?_⟩
  unfold closeF
  dsimp only
  obtain ⟨s, hs⟩ : ∃ s, s = outFl (flushF outW x.1 x.2).2 := ⟨_, rfl⟩
  rw [← hs] at hk ⊢
  rw [if_neg (by rw [hk.result]; exact h)]
  unfold emit
  dsimp only
  rw [hk.result, hk.fb, if_pos (show (Ev.of x.2.result []).test = [] from rfl)]
  rfl
theorem exitF_result (x : CI) (e : Int) (h : e = 1 ∨ e = 2) : (exitF x e).2.result ≠ [] ∧ (e = 2 → (exitF x e).2.result = tfail) ∧ (e = 1 → (exitF x e).2.result = tpass ∨ (exitF x e).2.result = tskip ∧ x.2.result = tskip) := by
  rcases h with rfl | rfl
  · unfold exitF
    dsimp only
    rw [if_pos rfl]
    split
    · rename_i hr
      exact ⟨by rw [hr]; decide, fun h => by omega, fun _ => .inr ⟨hr, hr⟩⟩
    · exact ⟨by show tpass ≠ []; decide, fun h => by omega, fun _ => .inl rfl⟩
  · unfold exitF
    dsimp only
    rw [if_neg (by decide), if_pos rfl]
    exact ⟨by show tfail ≠ []; decide, fun _ => rfl, fun h => by omega⟩
theorem failF_result (x : CI) (f : List UInt8) : (failF x f).2.result = x.2.result := by unfold failF; dsimp only; split <;> rfl

end Go.Proofs.YtdljobmhnnegiaaDoor

/- handleInputLine: the whole function. -/
namespace Go.Proofs.YtdljobmhnnegiaaDoor
open Go.RowKit

set_option maxRecDepth 100000 in
set_option maxHeartbeats 40000000 in
theorem handle_any {cf : Cf} {B : Nat} {xm : List Nat} {tp : List (Nat × Obj)} {s : CS} {w : World} {b1 o1 n1 c1 : Nat} {line : List UInt8}
    (h : Core cf (B :: xm) tp s w) (hb : OB cf B s w) (hs1 : Src tp b1 o1 line) (hn1 : n1 = line.length) (hc1 : n1 ≤ c1) (hbig1 : n1 ≤ 900000) (hr : Phi s + 2 * n1 ≤ 8900000) :
    Calls Tryd.prog 52 #[.pointer (some ⟨cf.c, 0, none⟩), .slice (some ⟨b1, o1, none⟩) n1 c1] w (HP cf B xm tp (handleF s line) w) := by
  have HH := Lib.hid (And.intro h (And.intro hb (And.intro hs1 (And.intro hn1 (And.intro hc1 (And.intro hbig1 hr))))))
  clear hs1 hn1 hbig1 hr
  by_cases hz : n1 = 0
  · have hl : line = [] := List.length_eq_zero_iff.1 (by rw [← HH.out.2.2.2.1]; exact hz)
    have z0 : (n1 : Int) = 0 := by omega
    have HU : Hid (handleF s line = s) := by show _ = _; rw [hl]; rfl
    clear hz hl h hb
    go_enter Tryd.func52, Tryd.ntmps52
    refine wp_seq_k ?_
    intro K0 hK0
    have HK0 := Lib.hid hK0
    clear hK0
    go_wp2_with fail
    refine bodyPost_ret (results_none rfl _ _ _) rfl ?_
    rw [HU.out]
    exact ⟨rfl, HH.out.1, Same610.refl _ _, HH.out.2.1⟩
  · obtain ⟨c, r, hl⟩ : ∃ c r, line = c :: r := by
      cases line with
      | nil => exact absurd HH.out.2.2.2.1 hz
      | cons c r => exact ⟨c, r, rfl⟩
    have z0 : ¬ (n1 : Int) = 0 := by omega
    have p0 : (0 : Int) < (n1 : Int) := by omega
    obtain ⟨m, hm⟩ : ∃ m, m = c.toNat := ⟨_, rfl⟩
    have HL0 : Hid (∀ w' : World, (∀ p ∈ tp, w'.heap[p.1]? = some p.2) → w'.cell? ⟨b1, o1, none⟩ = some (.int .u8 m)) := fun w' hw => by
      have := HH.out.2.2.1 w' hw 0 (by rw [hl]; simp)
      rw [hl] at this
      rw [hm]
      exact this
    have hc0 : w.cell? ⟨b1, o1, none⟩ = some (.int .u8 m) := HL0.out w (fun p hp => HH.out.1.tpb hp)
    have HM : Hid (c = 22 ↔ m = 22) := by rw [hm]; exact UInt8.toNat_inj.symm
    have c8 := h.cells 16 _ rfl
    have hpe : Hid (pe s ≤ 8900000) := by have := HH.out.2.2.2.2.2.2; unfold Phi at this; show _ ≤ _; omega
    have HLEN : Hid (r.length = n1 - 1) := by show _ = _; rw [HH.out.2.2.2.1, hl]; simp
    have HLE := Lib.hid hl
    have H1 : (1 : Int) ≤ (n1 : Int) := by omega
    have H1n : 1 ≤ n1 := by omega
    clear hz hl hm h hb
    by_cases hmm : m = 22
    · have t1 : ((m : Int) == 22) = true := by simp; omega
      have t2 : ((m : Int) != 22) = false := by simp; omega
      have HU : Hid (handleF s line = markedF (outFl s) true r) := by
        show _ = _
        rw [HLE.out]
        unfold handleF
        dsimp only
        rw [if_neg (fun e => e.2 (HM.out.2 hmm)), if_pos (HM.out.2 hmm)]
      have HF := Lib.hid (outFl_any HH.out.1 HH.out.2.1 (by have := hpe.out; omega))
      obtain ⟨AO, hAO⟩ : ∃ AO, AO = if c1 = 1 then o1 else o1 + 1 := ⟨_, rfl⟩
      have hsl : ∀ w', (Instr.slice 23 (.slice (some ⟨b1, o1, none⟩) n1 c1) (some (.int .i64 1)) none none).run Tryd.prog w' = .ok (.slice (some ⟨b1, AO, none⟩) (n1 - 1) (c1 - 1)) w' := fun w' => by
        rw [hAO]; exact slice_from w' b1 o1 n1 c1 1 H1n hc1
      have HS2 : Hid (Src tp b1 AO r) := fun w' hw => by
        have h1 := HH.out.2.2.1 w' hw
        by_cases e : c1 = 1
        · have : r = [] := List.length_eq_zero_iff.1 (by have := HLEN.out; omega)
          rw [this]; exact Rd.nil _ _ _
        · rw [hAO, if_neg e]
          have := h1.drop 1
          rw [HLE.out] at this
          exact this
      clear hAO
      go_enter Tryd.func52, Tryd.ntmps52
      refine wp_seq_k ?_
      intro K0 hK0
      have HK0 := Lib.hid hK0
      clear hK0
      go_wp2_with fail
      refine HK0.out _ _ ?_
      refine wp_seq_k ?_
      intro K1 hK1
      have HK1 := Lib.hid hK1
      clear hK1
      go_wp2_with fail
      refine HK1.out _ _ ?_
      refine wp_seq_k ?_
      intro K2 hK2
      have HK2 := Lib.hid hK2
      clear hK2
      obtain ⟨mf, hmf⟩ : ∃ mf, mf = s.mFraming := ⟨_, rfl⟩
      rw [← hmf] at c8
      clear hmf
      cases mf
      all_goals
        go_wp2_with fail
        refine HK2.out _ _ ?_
        refine wp_seq_k ?_
        intro K3 hK3
        have HK3 := Lib.hid hK3
        clear hK3
        go_wp2_with fail
        refine HF.out.mono ?_
        rintro en w1 ⟨rfl, hC1, hS1, hO1, hp1⟩
        have HW := Lib.hid (And.intro hC1 (And.intro hO1 (And.intro hS1 hp1)))
        clear hC1 hO1 hS1 hp1 hc0 c8
        dsimp only
        go_wp2_with fail
        refine HK3.out _ _ ?_
        refine stA HW.out.1 HW.out.2.1 HS2.out HLEN.out.symm (by omega) (by have := HH.out.2.2.2.2.2.1; omega) (by have h1 := Phi_outFl s; have h2 := HH.out.2.2.2.2.2.2; unfold Phi at h1 h2; omega) _ _ _ _ _ _ _ _ _ _ _ _ _ _ _ _ _ _ _ _ _ _ _ _ _ _ _ _ _ _ _ _ _ _ _ _ _ _ _ _ _ _ _ _ _ _ _ _ _ _ _ _ _ _ _ _ _ _ _ _ _ _ _ _ _ _ _ _ _ _ _ _ _ _ _ _ _ _ _ _ _ _ _ _ _ _ _ _ _ _ _ _ _ _ _ _ _ _ _ _ _ _ _ _ _ _ _ _ _ _ _ _ _ _ _ _ _ _ _ _ _ _ _ _ _ _ _ _ _ _ _ _ _ _ _ _ _ _ _ _ _ _ _ _ _ _ _ _ _ _ _ _ _ _ _ _ _ _ _ _ _ _ _ _ _ _ _ _ _ _ _ _ _ _ _ _ _ _ _ _ _ _ _ _ _ _ _ _ _ _ _ _ _ _ _ _ _ _ _ _ _ _ _ _ _ _ _ _ _ _ _ _ _ _ _ _ _ _ _ _ _ _ _ _ _ _ _ _ _ _ _ _ _ _ _ _ _ _ _ _ _ _ _ _ _ _ _ _ _ _ _ _ _ _ _ _ _ _ _ _ _ _ _ _ _ _ _ _ _ _ _ _ _ _ _ _ _ _ _ _ _ _ _ _ _ _ _ _ _ _ _ _ _ _ _ _ _ _ _ _ _ _ _ _ _ _ _ _ _ _ _ _ _ _ _ _ _ _ _ _ _ _ _ _ _ _ _ _ _ _ _ _ _ _ _ _ ?_
        intro a w' ha hp
        refine bodyPost_ret (results_none rfl _ _ _) ha ?_
        rw [HU.out]
        exact ⟨rfl, hp.2.1, HW.out.2.2.1.trans hp.2.2.1, hp.2.2.2⟩
    · have t1 : ((m : Int) == 22) = false := by simp; omega
      have t2 : ((m : Int) != 22) = true := by simp; omega
      obtain ⟨mf, hmf⟩ : ∃ mf, mf = s.mFraming := ⟨_, rfl⟩
      rw [← hmf] at c8
      cases mf with
      | true =>
        have HU : Hid (handleF s line = outW s line) := by
          show _ = _
          rw [HLE.out]
          unfold handleF
          dsimp only
          rw [if_pos ⟨hmf.symm, fun e => hmm (HM.out.1 e)⟩]
        have HF := Lib.hid (outW_any HH.out.1 HH.out.2.1 HH.out.2.2.1 n1 c1 HH.out.2.2.2.1 hc1 (by have := HH.out.2.2.2.2.2.1; omega) (by have := hpe.out; omega))
        clear hmf
        go_enter Tryd.func52, Tryd.ntmps52
        refine wp_seq_k ?_
        intro K0 hK0
        have HK0 := Lib.hid hK0
        clear hK0
        go_wp2_with fail
        refine HK0.out _ _ ?_
        refine wp_seq_k ?_
        intro K1 hK1
        have HK1 := Lib.hid hK1
        clear hK1
        go_wp2_with fail
        refine HK1.out _ _ ?_
        refine wp_seq_k ?_
        intro K2 hK2
        have HK2 := Lib.hid hK2
        clear hK2
        go_wp2_with fail
        refine HF.out.mono ?_
        rintro en w1 ⟨rfl, hC1, hS1, hO1, hp1⟩
        have HW := Lib.hid (And.intro hC1 (And.intro hO1 hS1))
        clear hC1 hO1 hS1 hp1 hc0 c8
        dsimp only
        go_wp2_with fail
        refine bodyPost_ret (results_none rfl _ _ _) rfl ?_
        rw [HU.out]
        exact ⟨rfl, HW.out.1, HW.out.2.2, HW.out.2.1⟩
      | false =>
        have HU : Hid (handleF s line = markedF s false line) := by
          show _ = _
          rw [HLE.out]
          unfold handleF
          dsimp only
          rw [if_neg (fun e => by rw [← hmf] at e; exact absurd e.1 (by simp)), if_neg (fun e => hmm (HM.out.1 e))]
        clear hmf
        go_enter Tryd.func52, Tryd.ntmps52
        refine wp_seq_k ?_
        intro K0 hK0
        have HK0 := Lib.hid hK0
        clear hK0
        go_wp2_with fail
        refine HK0.out _ _ ?_
        refine wp_seq_k ?_
        intro K1 hK1
        have HK1 := Lib.hid hK1
        clear hK1
        go_wp2_with fail
        refine HK1.out _ _ ?_
        refine wp_seq_k ?_
        intro K2 hK2
        have HK2 := Lib.hid hK2
        clear hK2
        go_wp2_with fail
        refine HK2.out _ _ ?_
        refine wp_seq_k ?_
        intro K3 hK3
        have HK3 := Lib.hid hK3
        clear hK3
        go_wp2_with fail
        refine HK3.out _ _ ?_
        refine stA HH.out.1 HH.out.2.1 HH.out.2.2.1 HH.out.2.2.2.1 hc1 HH.out.2.2.2.2.2.1 (by have h2 := HH.out.2.2.2.2.2.2; unfold Phi at h2; omega) _ _ _ _ _ _ _ _ _ _ _ _ _ _ _ _ _ _ _ _ _ _ _ _ _ _ _ _ _ _ _ _ _ _ _ _ _ _ _ _ _ _ _ _ _ _ _ _ _ _ _ _ _ _ _ _ _ _ _ _ _ _ _ _ _ _ _ _ _ _ _ _ _ _ _ _ _ _ _ _ _ _ _ _ _ _ _ _ _ _ _ _ _ _ _ _ _ _ _ _ _ _ _ _ _ _ _ _ _ _ _ _ _ _ _ _ _ _ _ _ _ _ _ _ _ _ _ _ _ _ _ _ _ _ _ _ _ _ _ _ _ _ _ _ _ _ _ _ _ _ _ _ _ _ _ _ _ _ _ _ _ _ _ _ _ _ _ _ _ _ _ _ _ _ _ _ _ _ _ _ _ _ _ _ _ _ _ _ _ _ _ _ _ _ _ _ _ _ _ _ _ _ _ _ _ _ _ _ _ _ _ _ _ _ _ _ _ _ _ _ _ _ _ _ _ _ _ _ _ _ _ _ _ _ _ _ _ _ _ _ _ _ _ _ _ _ _ _ _ _ _ _ _ _ _ _ _ _ _ _ _ _ _ _ _ _ _ _ _ _ _ _ _ _ _ _ _ _ _ _ _ _ _ _ _ _ _ _ _ _ _ _ _ _ _ _ _ _ _ _ _ _ _ _ _ _ _ _ _ _ _ _ _ _ _ _ _ _ _ _ _ _ _ _ _ _ _ _ _ _ _ _ _ _ _ _ ?_
        intro a w' ha hp
        refine bodyPost_ret (results_none rfl _ _ _) ha ?_
        rw [HU.out]
        exact hp

end Go.Proofs.YtdljobmhnnegiaaDoor

/- The converter's input: its line buffer, whose callbacks are handleInputLine and the output's write. -/
namespace Go.Proofs.YtdljobmhnnegiaaDoor
open Go.RowKit

/-- The input's callbacks. -/
def LVI (c : Nat) : Value := .func (.func 52) #[.pointer (some ⟨c, 0, none⟩)] #[]
def PVI (c : Nat) : Value := .func (.func 50) #[.pointer (some ⟨c, 11, none⟩)] #[]
def hdS (x : CS × Nat) (l : List UInt8) : CS × Nat := (handleF x.1 l, x.2 + l.length)
def owS (x : CS × Nat) (l : List UInt8) : CS × Nat := (outW x.1 l, x.2 + l.length)
def JI (cf : Cf) (B1 B2 : Nat) (xm : List Nat) (tp : List (Nat × Obj)) (A : Nat) (x : CS × Nat) (w : World) : Prop :=
  Core cf (B2 :: B1 :: xm) tp x.1 w ∧ OB cf B2 x.1 w ∧ Phi x.1 ≤ A + 9 * x.2

section
variable {cf : Cf} {B1 B2 : Nat} {xm : List Nat} {tp : List (Nat × Obj)} {A M : Nat}

theorem Core.ne2 {s : CS} {w : World} (h : Core cf (B2 :: B1 :: xm) tp s w) : B2 ≠ B1 := by
  obtain ⟨ρ, rv, gs, ev, xs, kp, r⟩ := h.rows
  exact fun e => (List.nodup_cons.1 r.ndx).1 (by rw [e]; exact List.mem_cons_self ..)

theorem Core.swapT {s : CS} {w : World} {o : Obj} (h : Core cf (B2 :: xm) ((B1, o) :: tp) s w) : Core cf (B2 :: B1 :: xm) tp s w ∧ w.heap[B1]? = some o := ⟨h.give.1.swap, h.give.2⟩

theorem OB.only {s : CS} {w w' : World} (h : OB cf B2 s w) (ho : Only cf.c 6 B1 w w') (hne : B2 ≠ B1) (hfr : ∀ j, w'.frozen? ⟨cf.c, j, none⟩ = false) (hlt : B2 < w.heap.size) : OB cf B2 s w' := by
  obtain ⟨hL, hl⟩ := h
  have hb := ho.block B2 hlt hL.ne hne
  have hc := hL.c1
  obtain ⟨raw, h1, h2⟩ := hL.buf
  exact ⟨⟨(ho.cell hc 11 (by omega)).trans hL.c0, (ho.cell hc 12 (by omega)).trans hL.c1, (ho.cell hc 13 (by omega)).trans hL.c2, (ho.cell hc 14 (by omega)).trans hL.c3, (ho.cell hc 15 (by omega)).trans hL.c4, hfr, ⟨raw, hb.trans h1, h2⟩, hL.rd.same hb, hL.len, hL.le, hL.ne⟩, hl⟩

theorem JI.only {x : CS × Nat} {w w' : World} (h : JI cf B1 B2 xm tp A x w) (ho : Only cf.c 6 B1 w w') : JI cf B1 B2 xm tp A x w' := by
  have hC := h.1.only ho (.inl rfl) (by simp)
  exact ⟨hC, h.2.1.only ho h.1.ne2 hC.fr (h.1.xlt (by simp)).2.1, h.2.2⟩

/-- What a callback leaves of the input buffer. -/
theorem lbs_in {s : CS} {w w' : World} {n i k : Nat} {rest : List UInt8} {mid esc : Bool} (hL : LBS cf.c 6 B1 4096 (LVI cf.c) (PVI cf.c) n i rest mid esc w) (hC : Core cf xm tp s w') (hS : Same610 cf.c w w') (hb : w'.heap[B1]? = w.heap[B1]?) (hk : k ≤ rest.length) :
    LBS cf.c 6 B1 4096 (LVI cf.c) (PVI cf.c) n (i + k) (rest.drop k) mid esc w' := by
  obtain ⟨raw, h1, h2⟩ := hL.buf
  have := hL.len
  exact ⟨(hS 6 (by omega) (by omega)).trans hL.c0, (hS 7 (by omega) (by omega)).trans hL.c1, (hS 8 (by omega) (by omega)).trans hL.c2, (hS 9 (by omega) (by omega)).trans hL.c3, (hS 10 (by omega) (by omega)).trans hL.c4, hC.fr, ⟨raw, hb.trans h1, h2⟩, (hL.rd.drop k).same hb, by rw [List.length_drop]; omega, hL.le, hL.ne⟩

theorem JI.cbL (hA : A + 9 * M + 10000 ≤ 8900000) : CB Prod.snd M cf.c 6 B1 4096 (LVI cf.c) (PVI cf.c) (JI cf B1 B2 xm tp A) hdS 52 #[.pointer (some ⟨cf.c, 0, none⟩)] #[] := by
  intro x n i rest mid esc w k hJ hL hk hkl hpot
  obtain ⟨s, f⟩ := x
  obtain ⟨hC, hO, hev⟩ := hJ
  dsimp only at hC hO hev hpot
  obtain ⟨raw, hr, hsz⟩ := hL.buf
  have hlen := hL.len
  have hle := hL.le
  have hl : (rest.take k).length = k := by rw [List.length_take]; omega
  have hC1 := hC.swap.take hr
  have hsrc : Src ((B1, .cells raw 5 (0, 0)) :: tp) B1 i (rest.take k) := fun w' hw => (hL.rd.same ((hw _ (List.mem_cons_self ..)).trans hr.symm)).take k
  refine (handle_any hC1 hO hsrc hl.symm (show k ≤ 4096 - i by omega) (by omega) (by omega)).mono ?_
  rintro en w' ⟨rfl, hC', hS', hO'⟩
  have hg := hC'.swapT
  have hph := Phi_handleF s (rest.take k)
  rw [hl] at hph
  refine ⟨rfl, ⟨hg.1, hO', ?_⟩, lbs_in hL hC' hS' (hg.2.trans hr.symm) hkl⟩
  show Phi (handleF s (rest.take k)) ≤ A + 9 * (f + (rest.take k).length)
  rw [hl]; omega

theorem JI.cbP (hA : A + 9 * M + 10000 ≤ 8900000) : CB Prod.snd M cf.c 6 B1 4096 (LVI cf.c) (PVI cf.c) (JI cf B1 B2 xm tp A) owS 50 #[.pointer (some ⟨cf.c, 11, none⟩)] #[] := by
  intro x n i rest mid esc w k hJ hL hk hkl hpot
  obtain ⟨s, f⟩ := x
  obtain ⟨hC, hO, hev⟩ := hJ
  dsimp only at hC hO hev hpot
  obtain ⟨raw, hr, hsz⟩ := hL.buf
  have hlen := hL.len
  have hle := hL.le
  have hl : (rest.take k).length = k := by rw [List.length_take]; omega
  have hC1 := hC.swap.take hr
  have hsrc : Src ((B1, .cells raw 5 (0, 0)) :: tp) B1 i (rest.take k) := fun w' hw => (hL.rd.same ((hw _ (List.mem_cons_self ..)).trans hr.symm)).take k
  refine (outW_any hC1 hO hsrc k (4096 - i) hl.symm (by omega) (by omega) (by unfold Phi at hev; omega)).mono ?_
  rintro en w' ⟨rfl, hC', hS', hO', _⟩
  have hg := hC'.swapT
  have hph := Phi_outW s (rest.take k)
  rw [hl] at hph
  refine ⟨rfl, ⟨hg.1, hO', ?_⟩, lbs_in hL hC' hS' (hg.2.trans hr.symm) hkl⟩
  show Phi (outW s (rest.take k)) ≤ A + 9 * (f + (rest.take k).length)
  rw [hl]; omega
end

end Go.Proofs.YtdljobmhnnegiaaDoor

/- The converter's own functions: Write, Exited, SetFailedBuild, Close. -/
namespace Go.Proofs.YtdljobmhnnegiaaDoor
open Go.RowKit

/-- The input buffer. -/
def IB (cf : Cf) (B : Nat) (b : LB) (w : World) : Prop := LBS cf.c 6 B 4096 (LVI cf.c) (PVI cf.c) b.bs.length 0 b.bs b.mid b.esc w ∧ b.bs.length < 4096
/-- The converter with both its buffers. -/
def St (cf : Cf) (B1 B2 : Nat) (tp : List (Nat × Obj)) (x : CI) (w : World) : Prop := Core cf [B2, B1] tp x.2 w ∧ OB cf B2 x.2 w ∧ IB cf B1 x.1 w
/-- How many events may yet come. -/
def Psi (x : CI) : Nat := Phi x.2 + 9 * x.1.bs.length

theorem inW_eq (b : LB) (s : CS) (l : List UInt8) : (writeF hdS owS 4096 l.length (b, (s, 0)) l).1 = (inW (b, s) l).1 ∧ (writeF hdS owS 4096 l.length (b, (s, 0)) l).2.1 = (inW (b, s) l).2 := by
  have h := writeF_map (φ := (Prod.fst : CS × Nat → CS)) (L := handleF) (P := outW) (L' := hdS) (P' := owS) (fun _ _ => rfl) (fun _ _ => rfl) 4096 l.length b (s, 0) l
  dsimp only at h
  unfold inW
  exact ⟨h.1.symm, h.2.symm⟩
theorem flushI_eq (b : LB) (s : CS) : (flushF owS b (s, 0)).1 = (flushF outW b s).1 ∧ (flushF owS b (s, 0)).2.1 = (flushF outW b s).2 := by
  unfold flushF
  split <;> exact ⟨rfl, rfl⟩

theorem Psi_inW (x : CI) (l : List UInt8) : Psi (inW x l) ≤ Psi x + 9 * l.length := by
  obtain ⟨b, s⟩ := x
  have he := inW_eq b s l
  have ht := writeF_tot (pot := (Prod.snd : CS × Nat → Nat)) (L := hdS) (P := owS) (fun _ _ => rfl) (fun _ _ => rfl) 4096 l.length b (s, 0) l
  have hk := writeF_keep (L := hdS) (P := owS) (I := fun x : CS × Nat => Phi x.1 ≤ Phi s + 9 * x.2)
    (fun x y h => by have := Phi_handleF x.1 y; unfold hdS; dsimp only; omega) (fun x y h => by have := Phi_outW x.1 y; unfold owS; dsimp only; omega) 4096 l.length (b, (s, 0)) l (by dsimp only; omega)
  unfold Psi
  rw [← he.1, ← he.2]
  dsimp only at ht hk ⊢
  omega
theorem Psi_flush (x : CI) : Psi (flushF outW x.1 x.2) ≤ Psi x := by
  obtain ⟨b, s⟩ := x
  unfold flushF Psi
  dsimp only
  split
  · exact Nat.le_refl _
  · have := Phi_outW s b.bs
    dsimp only
    simp only [List.length_nil]
    omega

section
variable {cf : Cf} {B1 B2 : Nat} {tp : List (Nat × Obj)}

set_option maxRecDepth 100000 in
theorem in50_any {x : CI} {w : World} (h : St cf B1 B2 tp x w) {b2 off2 : Nat} {l : List UInt8} (hsrc : Src tp b2 off2 l) (n2 c2 : Nat) (hn2 : n2 = l.length) (hc2 : n2 ≤ c2) (hbnd : Psi x + 9 * n2 ≤ 8000000) :
    Calls Tryd.prog 50 #[.pointer (some ⟨cf.c, 6, none⟩), .slice (some ⟨b2, off2, none⟩) n2 c2] w fun e w' => e = .returned (.tuple #[]) ∧ St cf B1 B2 tp (inW x l) w' := by
  obtain ⟨b, s⟩ := x
  subst hn2
  obtain ⟨hC, hO, hI, hlt⟩ := h
  unfold Psi at hbnd
  dsimp only at hC hO hI hlt hbnd
  have hw := @write_any (CS × Nat) Prod.snd (b.bs.length + l.length) cf.c 6 B1 4096 52 50 #[.pointer (some ⟨cf.c, 0, none⟩)] #[] #[.pointer (some ⟨cf.c, 11, none⟩)] #[] (JI cf B1 B2 [] tp (Phi s)) hdS owS
    (JI.cbL (by omega)) (JI.cbP (by omega)) (fun _ _ => rfl) (fun _ _ => rfl) (fun _ _ => rfl) (fun _ _ => rfl) (fun _ _ _ hj ho => hj.only ho) (fun _ _ hj => hj.1.g.g4) b2 off2 l (fun x w' hj => hsrc w' (fun p hp => hj.1.tpb hp)) (by omega) (by omega)
    b (s, 0) w ⟨hC, hO, by dsimp only; omega⟩ hI hlt l.length c2 rfl hc2 (by omega) (by dsimp only; omega)
  refine hw.mono ?_
  rintro en w' ⟨rfl, ⟨hC', hO', _⟩, hL', hlt'⟩
  have he := inW_eq b s l
  rw [he.1] at hL' hlt'
  rw [he.2] at hC' hO'
  exact ⟨rfl, hC', hO', hL', hlt'⟩

set_option maxRecDepth 100000 in
theorem in51_any {x : CI} {w : World} (h : St cf B1 B2 tp x w) (hbnd : Psi x ≤ 8000000) :
    Calls Tryd.prog 51 #[.pointer (some ⟨cf.c, 6, none⟩)] w fun e w' => e = .returned (.tuple #[]) ∧ St cf B1 B2 tp (flushF outW x.1 x.2) w' := by
  obtain ⟨b, s⟩ := x
  obtain ⟨hC, hO, hI, hlt⟩ := h
  unfold Psi at hbnd
  dsimp only at hC hO hI hlt hbnd
  have hw := @flush_any (CS × Nat) Prod.snd b.bs.length cf.c 6 B1 4096 (LVI cf.c) 50 #[.pointer (some ⟨cf.c, 11, none⟩)] #[] (JI cf B1 B2 [] tp (Phi s)) owS
    (JI.cbP (by omega)) (fun _ _ => rfl) (fun _ _ _ hj ho => hj.only ho) b (s, 0) w ⟨hC, hO, by dsimp only; omega⟩ hI (by dsimp only; omega)
  refine hw.mono ?_
  rintro en w' ⟨rfl, ⟨hC', hO', _⟩, hL'⟩
  have he := flushI_eq b s
  rw [he.1] at hL'
  rw [he.2] at hC' hO'
  refine ⟨rfl, hC', hO', hL', ?_⟩
  show (flushF outW b s).1.bs.length < 4096
  unfold flushF
  split
  · exact hlt
  · simp

theorem write_conv {x : CI} {w : World} (h : St cf B1 B2 tp x w) {b2 off2 : Nat} {l : List UInt8} (hsrc : Src tp b2 off2 l) (n2 c2 : Nat) (hn2 : n2 = l.length) (hc2 : n2 ≤ c2) (hbnd : Psi x + 9 * n2 ≤ 8000000) :
    Calls Tryd.prog 40 #[.pointer (some ⟨cf.c, 0, none⟩), .slice (some ⟨b2, off2, none⟩) n2 c2] w fun e w' => e = .returned (.tuple #[.int .i64 n2, .nilIface]) ∧ St cf B1 B2 tp (inW x l) w' := by
  have HW := Lib.hid (in50_any h hsrc n2 c2 hn2 hc2 hbnd)
  clear h hsrc hn2 hc2 hbnd
  go_enter Tryd.func40, Tryd.ntmps40
  go_wp2_with fail
  refine HW.out.mono ?_
  rintro en w1 ⟨rfl, hS⟩
  have HS := Lib.hid hS
  clear hS
  go_wp2_with fail
  refine bodyPost_ret (results_tmp2 rfl _ _ _) rfl ?_
  exact ⟨rfl, HS.out⟩

theorem St.res {x : CI} {w : World} (h : St cf B1 B2 tp x w) (r : List UInt8) : St cf B1 B2 tp (x.1, { x.2 with result := r }) (w.setCell ⟨cf.c, 5, none⟩ (.string (S r))) := by
  obtain ⟨hC, hO, hI, hlt⟩ := h
  have hs := hC.setResult r
  have hne := hI.ne
  have hb : (w.setCell ⟨cf.c, 5, none⟩ (.string (S r))).heap[B1]? = w.heap[B1]? := Below.heap_setCell _ _ _ _ hne
  have := lbs_in (k := 0) hI hs.1 hs.2.i hb (by omega)
  exact ⟨hs.1, hO.same hs.2 hs.1.fr (Below.heap_setCell _ _ _ _ hO.1.ne) rfl, this, hlt⟩
theorem St.fbs {x : CI} {w : World} (h : St cf B1 B2 tp x w) (r : List UInt8) : St cf B1 B2 tp (x.1, { x.2 with fb := r }) (w.setCell ⟨cf.c, 20, none⟩ (.string (S r))) := by
  obtain ⟨hC, hO, hI, hlt⟩ := h
  have hs := hC.setFb r
  have hne := hI.ne
  have hb : (w.setCell ⟨cf.c, 20, none⟩ (.string (S r))).heap[B1]? = w.heap[B1]? := Below.heap_setCell _ _ _ _ hne
  have := lbs_in (k := 0) hI hs.1 hs.2.i hb (by omega)
  exact ⟨hs.1, hO.same hs.2 hs.1.fr (Below.heap_setCell _ _ _ _ hO.1.ne) rfl, this, hlt⟩

theorem exited_ok {x : CI} {w : World} (h : St cf B1 B2 tp x w) :
    Calls Tryd.prog 41 #[.pointer (some ⟨cf.c, 0, none⟩), .nilIface] w fun e w' => e = .returned (.tuple #[]) ∧ St cf B1 B2 tp (exitF x 1) w' := by
  obtain ⟨aS, haS⟩ : ∃ b, b = decide (x.2.result = tskip) := ⟨_, rfl⟩
  have tS : ((S x.2.result).data.toList == [115, 107, 105, 112]) = aS := by rw [haS]; exact S_beq_dec _ tskip
  have HA := Lib.hid haS
  have c5 := h.1.cells 5 _ rfl
  have f5 := h.1.fr 5
  have HH := Lib.hid h
  have HR := Lib.hid (h.res tpass)
  clear h haS
  cases aS with
  | true =>
    have HU : Hid (exitF x 1 = x) := by show _ = _; unfold exitF; rw [if_pos rfl, if_pos (of_decide_eq_true HA.out.symm)]
    go_enter Tryd.func41, Tryd.ntmps41
    go_wp2_with fail
    refine bodyPost_end (results_none rfl _ _ _) rfl ?_
    exact ⟨rfl, by rw [HU.out]; exact HH.out⟩
  | false =>
    have HU : Hid (exitF x 1 = (x.1, { x.2 with result := tpass })) := by show _ = _; unfold exitF; rw [if_pos rfl, if_neg (of_decide_eq_false HA.out.symm)]
    go_enter Tryd.func41, Tryd.ntmps41
    go_wp2_with fail
    refine bodyPost_end (results_none rfl _ _ _) rfl ?_
    exact ⟨rfl, by rw [HU.out]; exact HR.out⟩

theorem new_err (w : World) : Calls Tryd.prog 42 #[.string ⟨#[101, 120, 105, 116]⟩] w fun e w' => e = .returned (.iface 92 (.pointer (some ⟨w.heap.size, 0, none⟩))) ∧ Below w.heap.size w w' := by
  go_enter Tryd.func42, Tryd.ntmps42
  go_wp2_with fail
  go_ret
  exact ⟨rfl, (Below.refl _ w).alloc (Nat.le_refl _) _⟩

theorem exited_err {x : CI} {w : World} (h : St cf B1 B2 tp x w) (g : Nat) :
    Calls Tryd.prog 41 #[.pointer (some ⟨cf.c, 0, none⟩), .iface 92 (.pointer (some ⟨g, 0, none⟩))] w fun e w' => e = .returned (.tuple #[]) ∧ St cf B1 B2 tp (exitF x 2) w' := by
  have c5 := h.1.cells 5 _ rfl
  have f5 := h.1.fr 5
  have HR := Lib.hid (h.res tfail)
  clear h
  go_enter Tryd.func41, Tryd.ntmps41
  go_wp2_with fail
  refine bodyPost_end (results_none rfl _ _ _) rfl ?_
  exact ⟨rfl, HR.out⟩

theorem failed_any {x : CI} {w : World} (h : St cf B1 B2 tp x w) (f : List UInt8) :
    Calls Tryd.prog 43 #[.pointer (some ⟨cf.c, 0, none⟩), .string (S f)] w fun e w' => e = .returned (.tuple #[]) ∧ St cf B1 B2 tp (x.1, { x.2 with fb := f }) w' := by
  have c20 := h.1.cells 20 _ rfl
  have f20 := h.1.fr 20
  have HR := Lib.hid (h.fbs f)
  clear h
  go_enter Tryd.func43, Tryd.ntmps43
  go_wp2_with fail
  refine bodyPost_end (results_none rfl _ _ _) rfl ?_
  exact ⟨rfl, HR.out⟩
end

end Go.Proofs.YtdljobmhnnegiaaDoor

/- Close. -/
namespace Go.Proofs.YtdljobmhnnegiaaDoor
open Go.RowKit

section
variable {cf : Cf} {B1 B2 : Nat} {tp : List (Nat × Obj)}

/-- The input buffer's block is kept. -/
theorem St.out {x : CI} {w : World} (h : St cf B1 B2 tp x w) : ∃ blk, w.heap[B1]? = some blk ∧ Core cf [B2] ((B1, blk) :: tp) x.2 w := by
  obtain ⟨raw, h1, _⟩ := h.2.2.1.buf
  exact ⟨_, h1, h.1.swap.take h1⟩
theorem St.back {b : LB} {s : CS} {w w' : World} {blk : Obj} (hI : IB cf B1 b w) (hb : w.heap[B1]? = some blk) (hC : Core cf [B2] ((B1, blk) :: tp) s w') (hS : Same610 cf.c w w') (hO : OB cf B2 s w') : St cf B1 B2 tp (b, s) w' := by
  have hg := hC.swapT
  have := lbs_in (k := 0) hI.1 hg.1 hS (hg.2.trans hb.symm) (by omega)
  exact ⟨hg.1, hO, this, hI.2⟩

set_option maxRecDepth 100000 in
set_option maxHeartbeats 4000000 in
theorem close_any {x : CI} {w : World} (h : St cf B1 B2 tp x w) (hbnd : Psi x ≤ 8000000) :
    Calls Tryd.prog 44 #[.pointer (some ⟨cf.c, 0, none⟩)] w fun e w' => e = .returned .nilIface ∧ St cf B1 B2 tp (closeF x) w' := by
  have H1 := Lib.hid (in51_any h hbnd)
  obtain ⟨y, hy⟩ : ∃ y, y = flushF outW x.1 x.2 := ⟨_, rfl⟩
  rw [← hy] at H1
  have hp := Psi_flush x
  rw [← hy] at hp
  have hpy : Hid (Phi y.2 ≤ 8000000) := by unfold Psi at hp hbnd; show _ ≤ _; omega
  obtain ⟨s, hs⟩ : ∃ s, s = outFl y.2 := ⟨_, rfl⟩
  have hps : Hid (Phi s ≤ 8000000) := by have := Phi_outFl y.2; rw [hs]; have := hpy.out; show _ ≤ _; omega
  have HU : Hid (closeF x = (y.1, if s.result = [] then s else emit s { Ev.of s.result [] with fb := if s.result = tfail then s.fb else [] })) := by
    show _ = _
    unfold closeF
    dsimp only
    rw [hs, hy]
  have HS := Lib.hid hs
  clear h hbnd hy hp hs
  go_enter Tryd.func44, Tryd.ntmps44
  go_wp2_with fail
  refine H1.out.mono ?_
  rintro en w1 ⟨rfl, hst⟩
  obtain ⟨blk, hb1, hC1⟩ := hst.out
  have HI := Lib.hid (And.intro hst.2.2 hb1)
  have HF := Lib.hid (outFl_any hC1 hst.2.1 (by have := hpy.out; unfold Phi at this; omega))
  rw [← HS.out] at HF
  clear hst hC1 hb1 H1
  go_wp2_with fail
  refine HF.out.mono ?_
  rintro en w2 ⟨rfl, hC2, hS2, hO2, _⟩
  have c5 := hC2.cells 5 _ rfl
  have f5 := hC2.fr 5
  have c20 := hC2.cells 20 _ rfl
  obtain ⟨aN, haN⟩ : ∃ b, b = decide (s.result = []) := ⟨_, rfl⟩
  have tN : ((S s.result).data.toList == []) = aN := by rw [haN]; exact S_beq_dec _ []
  obtain ⟨aF, haF⟩ : ∃ b, b = decide (s.result = tfail) := ⟨_, rfl⟩
  have tF : ((S s.result).data.toList == [102, 97, 105, 108]) = aF := by rw [haF]; exact S_beq_dec _ tfail
  have H2 := Lib.hid (And.intro hC2 (And.intro hO2 hS2))
  have HAN := Lib.hid haN
  have HAF := Lib.hid haF
  clear hC2 hO2 hS2 HF haN haF
  cases aN with
  | true =>
    have HV : Hid (closeF x = (y.1, s)) := by show _ = _; rw [HU.out, if_pos (of_decide_eq_true HAN.out.symm)]
    go_wp2_with fail
    go_ret
    refine ⟨rfl, ?_⟩
    rw [HV.out]
    exact St.back HI.out.1 HI.out.2 H2.out.1 H2.out.2.2 H2.out.2.1
  | false =>
    have hne := of_decide_eq_false HAN.out.symm
    have hn0 : s.evs.length ≤ 100000000 := by have := hps.out; unfold Phi pe at this; omega
    obtain ⟨g, hg⟩ : ∃ g, g = w2.heap.size := ⟨_, rfl⟩
    obtain ⟨w3, hw3⟩ : ∃ w3, w3 = w2.alloc (evBlk (Ev.of s.result []) ⟨#[]⟩ (.slice none 0 0)) := ⟨_, rfl⟩
    have hbel : Below w2.heap.size w2 w3 := by rw [hw3]; exact (Below.refl _ _).alloc (Nat.le_refl _) _
    have hC3 : Core cf [g, B2] ((B1, blk) :: tp) s w3 := by rw [hg, hw3]; exact H2.out.1.new _
    have hO3 : OB cf B2 s w3 := ⟨H2.out.2.1.1.below hbel, H2.out.2.1.2⟩
    have hS3 : Same610 cf.c w1 w3 := H2.out.2.2.trans (Same615.block (hbel.block _ H2.out.1.lt0.2)).i
    have hg3 : w3.heap[g]? = some (evBlk (Ev.of s.result []) ⟨#[]⟩ (.slice none 0 0)) := by rw [hg, hw3]; exact heap_alloc_new _ _
    have HW3 : Hid (w2.alloc (.cells #[.string (S s.result), .string ⟨#[]⟩, .string ⟨#[]⟩, .slice none 0 0, .string ⟨#[]⟩, .string ⟨#[]⟩, .string ⟨#[]⟩, .string ⟨#[]⟩, .string ⟨#[]⟩] 71) = w3 ∧ w2.heap.size = g) := by rw [hw3, hg]; exact ⟨rfl, rfl⟩
    cases aF with
    | true =>
      have hgc : g ≠ cf.c := (hC3.xlt (by simp : g ∈ [g, B2])).2.2
      have hBg : B2 ≠ g := by
        obtain ⟨ρ, rv, gs, ev, xs, kp, r⟩ := hC3.rows
        have := (List.nodup_cons.1 r.ndx).1
        exact fun e => this (by rw [e]; exact List.mem_cons_self ..)
      obtain ⟨w4, hw4⟩ : ∃ w4, w4 = w3.setCell ⟨g, 5, none⟩ (.string (S s.fb)) := ⟨_, rfl⟩
      have b2 : Same615 cf.c w3 w4 := by rw [hw4]; exact Same615.setx w3 (o := 5) hgc (.string (S s.fb))
      have b1 : Core cf [g, B2] ((B1, blk) :: tp) s w4 := by rw [hw4]; exact hC3.off (Off.set (b := g) (o := 5) (by simp : g ∈ [g]) (.string (S s.fb)) w3) (by simp)
      have b3 : OB cf B2 s w4 := hO3.same b2 b1.fr (by rw [hw4]; exact Below.heap_setCell _ _ _ _ hBg) rfl
      have b4 : w4.heap[g]? = some (evBlk { Ev.of s.result [] with fb := s.fb } ⟨#[]⟩ (.slice none 0 0)) := by
        have := heap_setCell_at (o := 5) (cs := _) (show w3.heap[g]? = some (.cells _ 71 (0, 0)) from hg3) (.string (S s.fb))
        rw [hw4, this]
        rfl
      have HE := Lib.hid (eventO b1 b3 b4 rfl hn0)
      have HV : Hid (closeF x = (y.1, emit s { Ev.of s.result [] with fb := s.fb })) := by
        show _ = _
        rw [HU.out, if_neg hne, if_pos (of_decide_eq_true HAF.out.symm)]
      have HSS := Lib.hid (hS3.trans b2.i)
      have c53 := hC3.cells 5 _ rfl
      have c203 := hC3.cells 20 _ rfl
      have cg : w3.cell? ⟨g, 5, none⟩ = some (.string (S [])) := by simp only [World.cell?, hg3, evBlk]; rfl
      have fg : w3.frozen? ⟨g, 5, none⟩ = false := by simp only [World.frozen?, hg3, evBlk]; rfl
      have HW4 : Hid (w3.setCell ⟨g, 5, none⟩ (.string (S s.fb)) = w4) := hw4.symm
      clear hne hn0 hbel hC3 hO3 hS3 hg3 hw3 hg hgc hBg b1 b2 b3 b4 hw4
      go_upto_region 5 with fail
      rw [HW3.out.1, HW3.out.2]
      go_upto_region 7 with fail
      rw [HW4.out]
      go_wp2_with fail
      refine HE.out.mono ?_
      rintro en w5 ⟨rfl, hC4, hS4, hO4⟩
      have H4 := Lib.hid (And.intro hC4 (And.intro hO4 (HSS.out.trans hS4)))
      clear hC4 hO4 hS4
      go_wp2_with fail
      go_ret
      refine ⟨rfl, ?_⟩
      rw [HV.out]
      exact St.back HI.out.1 HI.out.2 H4.out.1 H4.out.2.2 H4.out.2.1
    | false =>
      have HE := Lib.hid (eventO hC3 hO3 hg3 rfl hn0)
      have HV : Hid (closeF x = (y.1, emit s (Ev.of s.result []))) := by
        show _ = _
        rw [HU.out, if_neg hne, if_neg (of_decide_eq_false HAF.out.symm)]
        rfl
      have HSS := Lib.hid hS3
      have c53 := hC3.cells 5 _ rfl
      clear hne hn0 hbel hC3 hO3 hS3 hg3 hw3 hg
      go_upto_region 5 with fail
      rw [HW3.out.1, HW3.out.2]
      go_wp2_with fail
      refine HE.out.mono ?_
      rintro en w4 ⟨rfl, hC4, hS4, hO4⟩
      have H4 := Lib.hid (And.intro hC4 (And.intro hO4 (HSS.out.trans hS4)))
      clear hC4 hO4 hS4
      go_wp2_with fail
      go_ret
      refine ⟨rfl, ?_⟩
      rw [HV.out]
      exact St.back HI.out.1 HI.out.2 H4.out.1 H4.out.2.2 H4.out.2.1
end

end Go.Proofs.YtdljobmhnnegiaaDoor

/- A fresh converter in memory. -/
namespace Go.Proofs.YtdljobmhnnegiaaDoor
open Go.RowKit

def zeroConv : Array Value := #[.nilFunc, .string ⟨#[]⟩, .int .i64 0, .string ⟨#[]⟩, .slice none 0 0, .string ⟨#[]⟩, .slice none 0 0, .bool false, .nilFunc, .nilFunc, .bool false, .slice none 0 0, .bool false, .nilFunc, .nilFunc, .bool false, .bool false, .bool false, .bool false, .bool false, .string ⟨#[]⟩]
def newCells (c O : Nat) (pkg : List UInt8) (B1 B2 : Nat) : Array Value := #[.func (.func 38) #[] #[.pointer (some ⟨O, 0, none⟩)], .string (S pkg), .int .i64 0, .string ⟨#[]⟩, .slice none 0 0, .string ⟨#[]⟩, .slice (some ⟨B1, 0, none⟩) 0 4096, .bool false, .func (.func 52) #[.pointer (some ⟨c, 0, none⟩)] #[], .func (.func 50) #[.pointer (some ⟨c, 11, none⟩)] #[], .bool false, .slice (some ⟨B2, 0, none⟩) 0 1024, .bool false, .func (.func 53) #[.pointer (some ⟨c, 0, none⟩)] #[], .func (.func 53) #[.pointer (some ⟨c, 0, none⟩)] #[], .bool false, .bool false, .bool false, .bool false, .bool false, .string ⟨#[]⟩]
theorem info89 : (Tryd.prog.info? 89).map (·.size) = some 21 := by kernel_rfl
theorem newCells_one (c O : Nat) (pkg : List UInt8) (B1 B2 : Nat) : (newCells c O pkg B1 B2).all (·.oneCell') = true := by
  unfold newCells
  simp [Value.oneCell']


theorem St.init {cf : Cf} {B1 B2 : Nat} {w : World} {raw1 raw2 : Array Value} (hbel : Below cf.w0.heap.size cf.w0 w) (g0 : G5 cf.w0)
    (hc : w.heap[cf.c]? = some (.cells (newCells cf.c cf.O cf.pkg B1 B2) 89 (0, 0))) (hO : w.heap[cf.O]? = some (.cells #[.slice none 0 0] 38 (0, 0)))
    (h1 : w.heap[B1]? = some (.cells raw1 5 (0, 0))) (hz1 : raw1.size = 4096) (h2 : w.heap[B2]? = some (.cells raw2 5 (0, 0))) (hz2 : raw2.size = 1024)
    (l1 : cf.w0.heap.size ≤ cf.c) (l2 : cf.w0.heap.size ≤ cf.O) (l3 : cf.w0.heap.size ≤ B1) (l4 : cf.w0.heap.size ≤ B2)
    (n1 : cf.c ≠ cf.O) (n2 : B1 ≠ cf.c) (n3 : B2 ≠ cf.c) (n4 : B1 ≠ cf.O) (n5 : B2 ≠ cf.O) (n6 : B2 ≠ B1) : St cf B1 B2 [] (⟨[], false, false⟩, initS) w := by
  have hcell : ∀ j, w.cell? ⟨cf.c, j, none⟩ = (newCells cf.c cf.O cf.pkg B1 B2)[j]? := fun j => by simp only [World.cell?, hc]; rfl
  have hfr : ∀ j, w.frozen? ⟨cf.c, j, none⟩ = false := fun j => by simp only [World.frozen?, hc]; simp
  refine ⟨⟨hbel, g0, fun j v hv => ?_, hfr, fun k => if k = cf.c then 0 else if k = cf.O then 1 else if k = B1 ∨ k = B2 then 5 else 8, .slice none 0 0, [], .slice none 0 0, [], [], ?_⟩, ?_, ?_⟩
  · rw [hcell]
    unfold cv at hv
    split at hv <;> first | (rw [← Option.some.inj hv]; rfl) | cases hv
  · refine ⟨by rw [hcell]; rfl, ⟨rfl, .inl ⟨rfl, rfl⟩⟩, fun q hq => by simp at hq, rfl, hO, ⟨rfl, .inl ⟨rfl, rfl⟩⟩, rfl, fun p hp => by simp at hp, fun p hp => by simp at hp, fun k hk => ?_, by simp, by simp [n1.symm], fun k hk => by simp [Value.ownBlock] at hk, fun k hk => by simp [Value.ownBlock] at hk, fun g hg => by simp at hg, fun x hx => ?_, fun p hp => by simp at hp, fun p hp => by simp at hp, by simp, by simp [n6], by simp⟩
    · skip
      split at hk
      · rename_i e; rw [e]; exact ⟨l1, lt_of_block hc⟩
      · split at hk
        · rename_i e; rw [e]; exact ⟨l2, lt_of_block hO⟩
        · split at hk
          · rename_i e
            rcases e with e | e
            · rw [e]; exact ⟨l3, lt_of_block h1⟩
            · rw [e]; exact ⟨l4, lt_of_block h2⟩
          · omega
    · simp at hx
      rcases hx with rfl | rfl
      · simp [n3, n5]
      · simp [n2, n4]
  · exact ⟨⟨by rw [hcell]; rfl, by rw [hcell]; rfl, by rw [hcell]; rfl, by rw [hcell]; rfl, by rw [hcell]; rfl, hfr, ⟨raw2, h2, hz2⟩, Rd.nil _ _ _, rfl, by show 0 ≤ 1024; omega, n3⟩, by show 0 < 1024; omega⟩
  · exact ⟨⟨by rw [hcell]; rfl, by rw [hcell]; rfl, by rw [hcell]; rfl, by rw [hcell]; rfl, by rw [hcell]; rfl, hfr, ⟨raw1, h1, hz1⟩, Rd.nil _ _ _, rfl, by show 0 ≤ 4096; omega, n2⟩, by show 0 < 4096; omega⟩

def tstart : List UInt8 := [115, 116, 97, 114, 116]
theorem new_rest {w0 w1 V : World} {c O B1 B2 : Nat} {pkg : List UInt8} {raw1 raw2 : Array Value} (hbel : Below w0.heap.size w0 w1) (g0 : G5 w0) (hO : w1.heap[O]? = some (.cells #[.slice none 0 0] 38 (0, 0)))
    (hcb : w1.heap[c]? = some (.cells zeroConv 89 (0, 0))) (lO : w0.heap.size ≤ O) (lc : w0.heap.size ≤ c) (hcO : c ≠ O) (hV : Below w1.heap.size w1 V) (h1 : V.heap[B1]? = some (.cells raw1 5 (0, 0))) (hz1 : raw1.size = 4096)
    (h2 : V.heap[B2]? = some (.cells raw2 5 (0, 0))) (hz2 : raw2.size = 1024) (lB1 : w1.heap.size ≤ B1) (lB2 : w1.heap.size ≤ B2) (hne : B2 ≠ B1) :
    Calls Tryd.prog 54 #[.pointer (some ⟨c, 0, none⟩), .pointer (some ⟨(V.setRow c (newCells c O pkg B1 B2)).heap.size, 0, none⟩)] ((V.setRow c (newCells c O pkg B1 B2)).alloc (evBlk (Ev.of tstart []) ⟨#[]⟩ (.slice none 0 0)))
      fun e w' => e = .returned (.tuple #[]) ∧ St ⟨c, O, w0, pkg⟩ B1 B2 [] startF w' := by
  have hc1 := lt_of_block hcb
  have hO1 := lt_of_block hO
  have hbV : Below w0.heap.size w0 V := hbel.trans (hV.mono hbel.size)
  have hst : St ⟨c, O, w0, pkg⟩ B1 B2 [] (⟨[], false, false⟩, initS) (V.setRow c (newCells c O pkg B1 B2)) :=
    St.init (cf := ⟨c, O, w0, pkg⟩) (below_setRow hbV lc _) g0 (setRow_heap V c zeroConv _ 89 (0, 0) ((hV.block c hc1).trans hcb)) ((setRow_other V c O _ (Ne.symm hcO)).trans ((hV.block O hO1).trans hO))
      ((setRow_other V c B1 _ (by omega)).trans h1) hz1 ((setRow_other V c B2 _ (by omega)).trans h2) hz2 lc lO (by have := hbel.size; show w0.heap.size ≤ _; omega) (by have := hbel.size; show w0.heap.size ≤ _; omega) hcO (by show B1 ≠ c; omega) (by show B2 ≠ c; omega) (by show B1 ≠ O; omega) (by show B2 ≠ O; omega) hne
  obtain ⟨W, hW⟩ : ∃ W, W = V.setRow c (newCells c O pkg B1 B2) := ⟨_, rfl⟩
  rw [← hW] at hst ⊢
  obtain ⟨blk, hb1, hC1⟩ := hst.out
  have hbW : Below W.heap.size W (W.alloc (evBlk (Ev.of tstart []) ⟨#[]⟩ (.slice none 0 0))) := (Below.refl _ _).alloc (Nat.le_refl _) _
  have hC2 := hC1.new (evBlk (Ev.of tstart []) ⟨#[]⟩ (.slice none 0 0))
  have hO2 : OB ⟨c, O, w0, pkg⟩ B2 initS (W.alloc (evBlk (Ev.of tstart []) ⟨#[]⟩ (.slice none 0 0))) := ⟨hst.2.1.1.below hbW, hst.2.1.2⟩
  refine (eventO hC2 hO2 (heap_alloc_new _ _) rfl (by show 0 ≤ _; omega)).mono ?_
  rintro en w' ⟨rfl, hC3, hS3, hO3⟩
  exact ⟨rfl, St.back hst.2.2 hb1 hC3 ((Same615.block (hbW.block _ hC1.lt0.2)).i.trans hS3) hO3⟩

end Go.Proofs.YtdljobmhnnegiaaDoor
