/- The callback of Convert (function 38): an event is gathered, its output copied. -/
import Derived.Test.YtdljobmhnnegiaaDoorEmit
import Derived.Test.YtdljobmhnnegiaaDoorLate
namespace Go.Proofs.YtdljobmhnnegiaaDoor
open Go.RowKit

theorem info41 : (Tryd.prog.info? 41).map (fun i => (i.zero, i.size, i.bytes)) = some (some (.agg #[.string ⟨#[]⟩, .string ⟨#[]⟩, .string ⟨#[]⟩, .slice none 0 0, .string ⟨#[]⟩, .string ⟨#[]⟩, .string ⟨#[]⟩, .string ⟨#[]⟩, .string ⟨#[]⟩]), 9, 152) := by kernel_rfl

set_option maxRecDepth 100000 in
/-- bytes.Clone of nil. -/
theorem clone_nil (w : World) : Calls Tryd.prog 39 #[.slice none 0 0] w fun e w' => e = .returned (.slice none 0 0) ∧ w = w' := by
  have kn := fun (w : World) => Lib.run_eql_slice_nil (P := Tryd.prog) w 23 5 none 0 0 0 0 Tryd.underlying23
  go_enter Tryd.func39, Tryd.ntmps39
  go_wp2
  go_ret
  exact ⟨rfl, rfl⟩

/-- What bytes.Clone leaves of a slice whose block is listed. -/
def ClonedR (w : World) (l : List UInt8) (en : Ending) (w' : World) : Prop :=
  ∃ ov new, en = .returned ov ∧ OutR new l ov ∧ (∀ p ∈ new, w.heap.size ≤ p.1 ∧ w'.heap[p.1]? = some p.2) ∧ Below w.heap.size w w'

theorem clone_out {tp : List (Nat × Obj)} {l : List UInt8} {ov : Value} {w : World} (h : OutR tp l ov) (ht : ∀ p ∈ tp, w.heap[p.1]? = some p.2) (hl : l.length ≤ 140737488351232) :
    Calls Tryd.prog 39 #[ov] w (ClonedR w l) := by
  rcases h with ⟨rfl, rfl⟩ | ⟨g, cap, cur, rfl, _, hm, hc⟩
  · exact (clone_nil w).mono fun en w' ⟨he, hw⟩ => by subst hw; exact ⟨.slice none 0 0, [], he, .inl ⟨rfl, rfl⟩, (fun p hp => by simp at hp), Below.refl _ _⟩
  · have hr : Rd w g 0 l := Rd.of_block (ht _ hm) hc
    exact (clone_any hr l.length cap rfl hl).mono fun en w' ⟨v, he, g', cap', cs, hv, h1, h2, h3, h4, h5⟩ => by
      subst hv
      exact ⟨_, [(g', .cells cs 5 (0, 0))], he, .inr ⟨g', cap', cs, rfl, h1, by simp, h4⟩, (fun p hp => by simp at hp; subst hp; exact ⟨h2, h3⟩), h5⟩

theorem ev_step {ops : Array Oper} {o : Oper} {a : Act} {K : Act → World → Prop} {Q : Exit → Act → World → Prop} {E : Prop} {W : World} {ev : Value} {n : Nat} {xs news : List Value} (hgd : o.guard = none) (s x : Operand)
    (ho : o.op = .call { callee := .builtin .append, args := #[s, x], argTypes := #[38, 38] }) {b : Nat} (hs : a.eval s = ev) (hx : a.eval x = .slice (some ⟨b, 0, none⟩) 1 1) (hrow : W.ownsRow 0 41 9 ev n xs) {c : Array Value} (hb : W.heap[b]? = some (.cells c 41 (0, 0)))
    (hc : c.toList = news) (hn9 : news.length = 9) (h1 : ∀ u ∈ news, u.oneCell' = true) (hn : n ≤ 100000000)
    (h : ∀ g c w', w'.ownsRow 0 41 9 (.slice (some ⟨g, 0, none⟩) (n + 1) c) (n + 1) (xs ++ news) → W.grownBy w' ev.ownBlock → ((Value.slice (some ⟨g, 0, none⟩) (n + 1) c).ownBlock = ev.ownBlock ∨ (Value.slice (some ⟨g, 0, none⟩) (n + 1) c).ownBlock = some W.heap.size) → K (a.put o.dst (.slice (some ⟨g, 0, none⟩) (n + 1) c)) w') :
    if Region.wanted o (yielded ops a.tmps) = true then Oper.wp Tryd.prog o a W K Q else E := by
  obtain ⟨i0, hi, hz0, hz1, hz2⟩ := info_parts info41
  refine step_append_lies W hgd s x 38 ho 0 41 i0 _ 9 152 Tryd.underlying38 hi hz0 hz1 hz2 rfl (by decide) _ n xs hs hrow ⟨b, 0, none⟩ 1 1 news hx (by rw [hn9]) (World.news_of_block (by rw [← hc]; exact hb)) h1 (by decide) (by unfold maxLen; omega) (by omega) (Nat.zero_le _) _ rfl ?_
  intro g c w' a1 a2 a3 _
  exact h _ _ w' a1 a2 (a3.elim (fun a3 => .inl (by rw [a3]; rfl)) (fun a3 => .inr (by rw [← a3]; rfl)))

def ConvPost (cf : Cf) (xm : List Nat) (tp : List (Nat × Obj)) (s : CS) (w : World) (en : Ending) (w' : World) : Prop := en = .returned (.tuple #[]) ∧ Core cf xm tp s w' ∧ Same615 cf.c w w'

set_option maxRecDepth 100000 in
set_option maxHeartbeats 4000000 in
theorem conv1_any {cf : Cf} {xm : List Nat} {tp : List (Nat × Obj)} {s : CS} {w : World} (h : Core cf xm tp s w) {e : Ev} {ov : Value} (ho : OutR tp e.output ov) (hn : s.evs.length ≤ 100000000) (hl : e.output.length ≤ 140737488351232) :
    Calls Tryd.prog 38 #[.agg #[.string (S e.action), .string (S cf.pkg), .string (S e.test), ov, .string (S e.otype), .string (S e.fb), .string (S e.key), .string (S e.value), .string (S e.path)], .pointer (some ⟨cf.O, 0, none⟩)] w (ConvPost cf xm tp { s with evs := s.evs ++ [e] } w) := by
  obtain ⟨ρ, rv, gs, ev, xs, kp, r⟩ := h.rows
  have HC := Lib.hid h
  have HR := Lib.hid r
  have HO := Lib.hid ho
  have oc : w.cell? ⟨cf.O, 0, none⟩ = some ev := by simp [World.cell?, r.ocell]
  have of : w.frozen? ⟨cf.O, 0, none⟩ = false := by simp [World.frozen?, r.ocell]
  have hO := (r.lim cf.O (by rw [r.r1]; decide)).2
  have HE : Hid (∀ ov', evCells e cf.pkg ov' = [.string (S e.action), .string (S cf.pkg), .string (S e.test), ov', .string (S e.otype), .string (S e.fb), .string (S e.key), .string (S e.value), .string (S e.path)]) := fun _ => rfl
  have HCl : Hid (∀ w2, Below w.heap.size w w2 → Calls Tryd.prog 39 #[ov] w2 (ClonedR w2 e.output)) := fun w2 hb => clone_out ho (fun p hp => (hb.block p.1 (lt_of_block (h.tpb hp))).trans (h.tpb hp)) hl
  obtain ⟨N, hN⟩ : ∃ N, N = s.evs.length := ⟨_, rfl⟩
  have HN := Lib.hid hN
  rw [← hN] at hn
  generalize S e.action = b0 at HE ⊢
  generalize S cf.pkg = b1 at HE ⊢
  generalize S e.test = b2 at HE ⊢
  generalize S e.otype = b4 at HE ⊢
  generalize S e.fb = b5 at HE ⊢
  generalize S e.key = b6 at HE ⊢
  generalize S e.value = b7 at HE ⊢
  generalize S e.path = b8 at HE ⊢
  clear h r ho hl hN
  obtain ⟨B, hB⟩ : ∃ B, B = w.heap.size := ⟨_, rfl⟩
  have HB := Lib.hid hB
  obtain ⟨wa, hwa⟩ : ∃ wa, wa = w.alloc (.cells #[.string b0, .string b1, .string b2, ov, .string b4, .string b5, .string b6, .string b7, .string b8] 71) := ⟨_, rfl⟩
  have HWA := Lib.hid hwa
  have hba : Below w.heap.size w wa := by rw [hwa]; exact (Below.refl _ _).alloc (Nat.le_refl _) _
  have hbx : wa.heap[B]? = some (.cells #[.string b0, .string b1, .string b2, ov, .string b4, .string b5, .string b6, .string b7, .string b8] 71 (0, 0)) := by rw [hwa, hB]; exact heap_alloc_new _ _
  have hx : ∀ j, wa.cell? ⟨B, j, none⟩ = (#[Value.string b0, .string b1, .string b2, ov, .string b4, .string b5, .string b6, .string b7, .string b8])[j]? := fun j => by simp only [World.cell?, hbx]; rfl
  have x0 := hx 0
  have x1 := hx 1
  have x2 := hx 2
  have x3 := hx 3
  have x4 := hx 4
  have x5 := hx 5
  have x6 := hx 6
  have x7 := hx 7
  have x8 := hx 8
  simp only [List.getElem?_toArray, List.getElem?_cons_zero, List.getElem?_cons_succ] at x0 x1 x2 x3 x4 x5 x6 x7 x8
  have ca : wa.cell? ⟨cf.O, 0, none⟩ = some ev := (hba.cell (p := ⟨cf.O, 0, none⟩) hO).trans oc
  have HBA := Lib.hid hba
  have HBX := Lib.hid hbx
  clear hba hbx hx
  go_enter Tryd.func38, Tryd.ntmps38
  go_wp2
  rw [← hB, ← hwa]
  clear hB hwa oc
  have hS0 : (fun w' => w'.cell? ⟨cf.O, 0, none⟩ = some ev ∧ w'.cell? ⟨B, 0, none⟩ = some (.string b0) ∧ w'.cell? ⟨B, 1, none⟩ = some (.string b1) ∧ w'.cell? ⟨B, 2, none⟩ = some (.string b2) ∧ w'.cell? ⟨B, 3, none⟩ = some ov ∧ w'.cell? ⟨B, 4, none⟩ = some (.string b4) ∧ w'.cell? ⟨B, 5, none⟩ = some (.string b5) ∧ w'.cell? ⟨B, 6, none⟩ = some (.string b6) ∧ w'.cell? ⟨B, 7, none⟩ = some (.string b7) ∧ w'.cell? ⟨B, 8, none⟩ = some (.string b8)) wa.drew := ⟨ca, x0, x1, x2, x3, x4, x5, x6, x7, x8⟩
  have HSS : Hid (∀ W, Below wa.heap.size wa W → (fun w' => w'.cell? ⟨cf.O, 0, none⟩ = some ev ∧ w'.cell? ⟨B, 0, none⟩ = some (.string b0) ∧ w'.cell? ⟨B, 1, none⟩ = some (.string b1) ∧ w'.cell? ⟨B, 2, none⟩ = some (.string b2) ∧ w'.cell? ⟨B, 3, none⟩ = some ov ∧ w'.cell? ⟨B, 4, none⟩ = some (.string b4) ∧ w'.cell? ⟨B, 5, none⟩ = some (.string b5) ∧ w'.cell? ⟨B, 6, none⟩ = some (.string b6) ∧ w'.cell? ⟨B, 7, none⟩ = some (.string b7) ∧ w'.cell? ⟨B, 8, none⟩ = some (.string b8)) W) := fun W hb => ⟨cellB hb ca, cellB hb x0, cellB hb x1, cellB hb x2, cellB hb x3, cellB hb x4, cellB hb x5, cellB hb x6, cellB hb x7, cellB hb x8⟩
  clear ca x0 x1 x2 x3 x4 x5 x6 x7 x8
  refine wp_region_late (by kernel_rfl) (fun w' => w'.cell? ⟨cf.O, 0, none⟩ = some ev ∧ w'.cell? ⟨B, 0, none⟩ = some (.string b0) ∧ w'.cell? ⟨B, 1, none⟩ = some (.string b1) ∧ w'.cell? ⟨B, 2, none⟩ = some (.string b2) ∧ w'.cell? ⟨B, 3, none⟩ = some ov ∧ w'.cell? ⟨B, 4, none⟩ = some (.string b4) ∧ w'.cell? ⟨B, 5, none⟩ = some (.string b5) ∧ w'.cell? ⟨B, 6, none⟩ = some (.string b6) ∧ w'.cell? ⟨B, 7, none⟩ = some (.string b7) ∧ w'.cell? ⟨B, 8, none⟩ = some (.string b8)) (fun j => Nat.ble 23 j) ?_
  refine LateAny.take (i := 0) (v := ev) rfl (by kernel_rfl) (by kernel_rfl) (by kernel_rfl) (by kernel_rfl) (fun _ _ _ h => h) (Or.inl ⟨by rfl, fun w' h => by go_simp⟩) hS0 ?_
  refine LateAny.take (i := 1) (v := .pointer (some ⟨B, 0, none⟩)) rfl (by kernel_rfl) (by kernel_rfl) (by kernel_rfl) (by kernel_rfl) (fun _ _ _ h => h) (Or.inl ⟨by rfl, fun w' h => by go_simp⟩) hS0 ?_
  refine LateAny.take (i := 2) (v := .string b0) rfl (by kernel_rfl) (by kernel_rfl) (by kernel_rfl) (by kernel_rfl) (fun _ _ _ h => h) (Or.inl ⟨by rfl, fun w' h => by go_simp⟩) hS0 ?_
  refine LateAny.take (i := 3) (v := .pointer (some ⟨B, 1, none⟩)) rfl (by kernel_rfl) (by kernel_rfl) (by kernel_rfl) (by kernel_rfl) (fun _ _ _ h => h) (Or.inl ⟨by rfl, fun w' h => by go_simp⟩) hS0 ?_
  refine LateAny.take (i := 4) (v := .string b1) rfl (by kernel_rfl) (by kernel_rfl) (by kernel_rfl) (by kernel_rfl) (fun _ _ _ h => h) (Or.inl ⟨by rfl, fun w' h => by go_simp⟩) hS0 ?_
  refine LateAny.take (i := 5) (v := .pointer (some ⟨B, 2, none⟩)) rfl (by kernel_rfl) (by kernel_rfl) (by kernel_rfl) (by kernel_rfl) (fun _ _ _ h => h) (Or.inl ⟨by rfl, fun w' h => by go_simp⟩) hS0 ?_
  refine LateAny.take (i := 6) (v := .string b2) rfl (by kernel_rfl) (by kernel_rfl) (by kernel_rfl) (by kernel_rfl) (fun _ _ _ h => h) (Or.inl ⟨by rfl, fun w' h => by go_simp⟩) hS0 ?_
  refine LateAny.take (i := 7) (v := .pointer (some ⟨B, 3, none⟩)) rfl (by kernel_rfl) (by kernel_rfl) (by kernel_rfl) (by kernel_rfl) (fun _ _ _ h => h) (Or.inl ⟨by rfl, fun w' h => by go_simp⟩) hS0 ?_
  refine LateAny.take (i := 8) (v := ov) rfl (by kernel_rfl) (by kernel_rfl) (by kernel_rfl) (by kernel_rfl) (fun _ _ _ h => h) (Or.inl ⟨by rfl, fun w' h => by go_simp⟩) hS0 ?_
  refine LateAny.take (i := 10) (v := .pointer (some ⟨B, 4, none⟩)) rfl (by kernel_rfl) (by kernel_rfl) (by kernel_rfl) (by kernel_rfl) (fun _ _ _ h => h) (Or.inl ⟨by rfl, fun w' h => by go_simp⟩) hS0 ?_
  refine LateAny.take (i := 11) (v := .string b4) rfl (by kernel_rfl) (by kernel_rfl) (by kernel_rfl) (by kernel_rfl) (fun _ _ _ h => h) (Or.inl ⟨by rfl, fun w' h => by go_simp⟩) hS0 ?_
  refine LateAny.take (i := 12) (v := .pointer (some ⟨B, 5, none⟩)) rfl (by kernel_rfl) (by kernel_rfl) (by kernel_rfl) (by kernel_rfl) (fun _ _ _ h => h) (Or.inl ⟨by rfl, fun w' h => by go_simp⟩) hS0 ?_
  refine LateAny.take (i := 13) (v := .string b5) rfl (by kernel_rfl) (by kernel_rfl) (by kernel_rfl) (by kernel_rfl) (fun _ _ _ h => h) (Or.inl ⟨by rfl, fun w' h => by go_simp⟩) hS0 ?_
  refine LateAny.take (i := 14) (v := .pointer (some ⟨B, 6, none⟩)) rfl (by kernel_rfl) (by kernel_rfl) (by kernel_rfl) (by kernel_rfl) (fun _ _ _ h => h) (Or.inl ⟨by rfl, fun w' h => by go_simp⟩) hS0 ?_
  refine LateAny.take (i := 15) (v := .string b6) rfl (by kernel_rfl) (by kernel_rfl) (by kernel_rfl) (by kernel_rfl) (fun _ _ _ h => h) (Or.inl ⟨by rfl, fun w' h => by go_simp⟩) hS0 ?_
  refine LateAny.take (i := 16) (v := .pointer (some ⟨B, 7, none⟩)) rfl (by kernel_rfl) (by kernel_rfl) (by kernel_rfl) (by kernel_rfl) (fun _ _ _ h => h) (Or.inl ⟨by rfl, fun w' h => by go_simp⟩) hS0 ?_
  refine LateAny.take (i := 17) (v := .string b7) rfl (by kernel_rfl) (by kernel_rfl) (by kernel_rfl) (by kernel_rfl) (fun _ _ _ h => h) (Or.inl ⟨by rfl, fun w' h => by go_simp⟩) hS0 ?_
  refine LateAny.take (i := 18) (v := .pointer (some ⟨B, 8, none⟩)) rfl (by kernel_rfl) (by kernel_rfl) (by kernel_rfl) (by kernel_rfl) (fun _ _ _ h => h) (Or.inl ⟨by rfl, fun w' h => by go_simp⟩) hS0 ?_
  refine LateAny.take (i := 19) (v := .string b8) rfl (by kernel_rfl) (by kernel_rfl) (by kernel_rfl) (by kernel_rfl) (fun _ _ _ h => h) (Or.inl ⟨by rfl, fun w' h => by go_simp⟩) hS0 ?_
  refine LateAny.ready (rs := [9]) (by kernel_rfl) (by simp) ?_
  refine LateReady.cons rfl (fun K hK => ?_) LateReady.nil
  go_simp
  refine (HCl.out _ HBA.out.drew).mono ?_
  rintro en w1 ⟨ov', new, rfl, hov, hnew, hb1⟩
  obtain ⟨pp, pn, pc, rfl⟩ : ∃ p n c, ov' = .slice p n c := hov.form
  have hb1' : Below wa.heap.size wa w1 := ((Below.refl _ wa).drew).trans hb1
  have HOV := Lib.hid hov
  have HNEW := Lib.hid hnew
  have HB1 := Lib.hid hb1'
  clear hov hnew hb1 hb1'
  dsimp only
  refine hK.out _ _ (fun _ => HSS.out _ HB1.out) ?_
  clear hK K hS0
  refine LateAny.ready (rs := [20]) (by kernel_rfl) (by simp) ?_
  refine LateReady.cons rfl (fun K hK => ?_) LateReady.nil
  go_simp
  refine hK.out _ _ (fun _ => HSS.out _ HB1.out) ?_
  clear hK K
  refine LateAny.ready (rs := [21]) (by kernel_rfl) (by simp) ?_
  refine LateReady.cons rfl (fun K hK => ?_) LateReady.nil
  go_simp
  refine hK.out _ _ (fun _ => HSS.out _ (HB1.out.alloc HB1.out.size _)) ?_
  clear hK K
  refine LateAny.ready (rs := [22]) (by kernel_rfl) (by simp) ?_
  refine LateReady.cons rfl (fun K hK => ?_) LateReady.nil
  obtain ⟨W, hW⟩ : ∃ W, W = w1.alloc (.cells #[.string b0, .string b1, .string b2, .slice pp pn pc, .string b4, .string b5, .string b6, .string b7, .string b8] 41) := ⟨_, rfl⟩
  rw [← hW]
  have hblk : W.heap[w1.heap.size]? = some (.cells #[.string b0, .string b1, .string b2, .slice pp pn pc, .string b4, .string b5, .string b6, .string b7, .string b8] 41 (0, 0)) := by rw [hW]; exact heap_alloc_new _ _
  have hbW : Below w.heap.size w W := by rw [hW]; exact (HBA.out.trans (HB1.out.mono HBA.out.size)).alloc (Nat.le_trans HBA.out.size HB1.out.size) _
  have hrow : W.ownsRow 0 41 9 ev N xs := by
    rw [HN.out]
    exact ownsRow_same HR.out.orow fun k hk => hbW.block k (HR.out.ev_lt k hk)
  have hnewW : ∀ p ∈ new, w.heap.size ≤ p.1 ∧ W.heap[p.1]? = some p.2 := fun p hp => by
    have h1 := HNEW.out p hp
    refine ⟨?_, ?_⟩
    · have h2 : wa.drew.heap.size = wa.heap.size := rfl
      have h3 := HBA.out.size
      omega
    · rw [hW, Below.heap_alloc _ _ _ (lt_of_block h1.2)]; exact h1.2
  have HBW := Lib.hid hbW
  have HNW := Lib.hid hnewW
  have HROW := Lib.hid hrow
  have HBLK := Lib.hid hblk
  have hone : ∀ u ∈ evCells e cf.pkg (.slice pp pn pc), u.oneCell' = true := fun u hu => by
    rw [HE.out] at hu
    simp at hu
    rcases hu with rfl | rfl | rfl | rfl | rfl | rfl | rfl | rfl | rfl <;> rfl
  have HONE := Lib.hid hone
  have HSW : Hid (W.cell? ⟨cf.O, 0, none⟩ = some ev ∧ W.frozen? ⟨cf.O, 0, none⟩ = false) := ⟨(HBW.out.cell (p := ⟨cf.O, 0, none⟩) hO).trans (by simp [World.cell?, HR.out.ocell]), (HBW.out.frozen (p := ⟨cf.O, 0, none⟩) hO).trans of⟩
  have HWW : Hid (∀ k, k < wa.heap.size → W.heap[k]? = wa.heap[k]?) := fun k hk => by rw [hW, Below.heap_alloc _ _ _ (Nat.lt_of_lt_of_le hk HB1.out.size)]; exact HB1.out.block k hk
  clear hbW hnewW hrow hblk hone hW of
  refine ev_step (news := evCells e cf.pkg (.slice pp pn pc)) rfl (.tmp 3) (.tmp 24) rfl rfl rfl HROW.out HBLK.out (by rw [HE.out]) rfl HONE.out hn ?_
  intro g2 c2 w2 ho2 hg2 hat2
  have hE := HC.out.append_ev HR.out HBW.out HNW.out HOV.out (by rw [← HN.out]; exact ho2) hg2 hat2
  have HE2 := Lib.hid hE
  have hc2 : w2.cell? ⟨cf.O, 0, none⟩ = some ev := by
    have h1 := hg2.block cf.O (World.block_lt_of_cell? W _ HSW.out.1) (fun e => by have := HR.out.r3 _ e.symm; have := HR.out.r1; omega)
    exact (World.cell?_of_block (w := W) (a := ⟨cf.O, 0, none⟩) h1).trans HSW.out.1
  have hf2 : w2.frozen? ⟨cf.O, 0, none⟩ = false := by
    have h1 := hg2.block cf.O (World.block_lt_of_cell? W _ HSW.out.1) (fun e => by have := HR.out.r3 _ e.symm; have := HR.out.r1; omega)
    exact (World.frozen?_of_block (w := W) (a := ⟨cf.O, 0, none⟩) h1).trans HSW.out.2
  have hlB : B < W.heap.size := by have := lt_of_block HBX.out; have := HB1.out.size; have := lt_of_block HBLK.out; omega
  have hB2 : w2.heap[B]? = wa.heap[B]? := by
    rw [hg2.block B hlB (fun e => by have := HR.out.ev_lt B e.symm; have := HB.out; omega), HWW.out B (lt_of_block HBX.out)]
  have hS2 := HSS.out wa (Below.refl _ _)
  have hcB : ∀ j, w2.cell? ⟨B, j, none⟩ = wa.cell? ⟨B, j, none⟩ := fun j => World.cell?_of_block (w := wa) (a := ⟨B, j, none⟩) hB2
  obtain ⟨_, y0, y1, y2, y3, y4, y5, y6, y7, y8⟩ := hS2
  rw [← hcB] at y0 y1 y2 y3 y4 y5 y6 y7 y8
  clear hE hB2 hcB hlB
  refine hK.out _ _ (fun _ => ⟨hc2, y0, y1, y2, y3, y4, y5, y6, y7, y8⟩) ?_
  clear hK K y0 y1 y2 y3 y4 y5 y6 y7 y8
  refine LateAny.ready (rs := [23]) (by kernel_rfl) (by simp) ?_
  refine LateReady.cons rfl (fun K hK => ?_) LateReady.nil
  go_simp
  refine hK.out _ _ (fun h => by simp at h) ?_
  clear hK K
  refine LateAny.done (by kernel_rfl) ?_ _
  go_end0
  exact ⟨rfl, HE2.out⟩

end Go.Proofs.YtdljobmhnnegiaaDoor
