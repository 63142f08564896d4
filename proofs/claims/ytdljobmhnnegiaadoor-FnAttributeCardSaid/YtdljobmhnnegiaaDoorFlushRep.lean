/- flushReport (function 62): the pending reports, from the innermost one on. -/
import Derived.Test.YtdljobmhnnegiaaDoorEvent
import Derived.Deep.LoopGhost
import Derived.Test.YtdljobmhnnegiaaDoorWriteB
import Derived.BigRegion
import Derived.BigQuiet
import Derived.Deep.QuietTactic
import Derived.WalkSmall
namespace Go.Proofs.YtdljobmhnnegiaaDoor
open Go.RowKit

theorem addr_add (b n : Nat) : (⟨b, 0, none⟩ : Addr).add n = ⟨b, n, none⟩ := by unfold Addr.add; split <;> simp_all
theorem repBlk_ev (p : List UInt8 × List UInt8) : repBlk p = evBlk (Ev.of p.1 p.2) ⟨#[]⟩ (.slice none 0 0) := rfl

section
variable {cf : Cf} {xm : List Nat} {tp : List (Nat × Obj)} {s : CS} {w w' : World}

/-- How many reports are pending, in memory. -/
theorem Core.rep_len (h : Core cf xm tp s w) : ∃ a cap, w.cell? ⟨cf.c, 4, none⟩ = some (.slice a s.report.length cap) := by
  obtain ⟨ρ, rv, gs, ev, xs, kp, r⟩ := h.rows
  have h2 := r.rcell
  rcases r.rrow.2 with ⟨hv, hn⟩ | ⟨g, cap, cur, hv, _⟩
  · exact ⟨none, 0, by rw [h2, hv, hn]⟩
  · exact ⟨_, cap, by rw [h2, hv]⟩

/-- The last report is taken off. -/
theorem Core.pop (h : Core cf xm tp s w) {n : Nat} (hn : s.report.length = n + 1) : ∃ q cap g p, s.report = s.report.take n ++ [p] ∧ n + 1 ≤ cap ∧ w.cell? ⟨cf.c, 4, none⟩ = some (.slice (some ⟨q, 0, none⟩) (n + 1) cap) ∧
    w.cell? ⟨q, n, none⟩ = some (.pointer (some ⟨g, 0, none⟩)) ∧ Core cf (g :: xm) tp { s with report := s.report.take n } (w.setCell ⟨cf.c, 4, none⟩ (.slice (some ⟨q, 0, none⟩) n cap)) ∧
    (w.setCell ⟨cf.c, 4, none⟩ (.slice (some ⟨q, 0, none⟩) n cap)).heap[g]? = some (repBlk p) := by
  obtain ⟨ρ, rv, gs, ev, xs, kp, r⟩ := h.rows
  have hrow := r.rrow
  rw [hn] at hrow
  obtain ⟨q, cap, cur, hv, _, hq, hcap, hmax, hsz, htk⟩ : ∃ q cap cur, rv = .slice (some ⟨q, 0, none⟩) (n + 1) cap ∧ 0 ≤ q ∧ w.heap[q]? = some (.cells cur 91 (0, 0)) ∧ n + 1 ≤ cap ∧ cap ≤ maxLen ∧ cur.size = cap * 1 ∧ cur.toList.take ((n + 1) * 1) = ptrs gs := by
    rcases hrow.2 with ⟨_, h0⟩ | ⟨q, cap, cur, h1⟩
    · omega
    · exact ⟨q, cap, cur, h1⟩
  have hrow2 := hrow
  rw [hv] at hrow2
  have hgl : gs.length = n + 1 := by rw [r.rlen, hn]
  have hlast : gs = gs.take n ++ [gs[n]'(by omega)] := by
    rw [List.take_append_getElem]
    rw [List.take_of_length_le (by omega)]
  have hrl : s.report = s.report.take n ++ [s.report[n]'(by omega)] := by
    rw [List.take_append_getElem]
    rw [List.take_of_length_le (by omega)]
  obtain ⟨g, hg⟩ : ∃ g, g = gs[n]'(by omega) := ⟨_, rfl⟩
  obtain ⟨p, hp⟩ : ∃ p, p = s.report[n]'(by omega) := ⟨_, rfl⟩
  rw [← hg] at hlast
  rw [← hp] at hrl
  obtain ⟨gs', hgs'⟩ : ∃ x, x = gs.take n := ⟨_, rfl⟩
  obtain ⟨rp', hrp'⟩ : ∃ x, x = s.report.take n := ⟨_, rfl⟩
  rw [← hgs'] at hlast
  rw [← hrp'] at hrl ⊢
  have hgl' : gs'.length = n := by rw [hgs', List.length_take]; omega
  have hrl' : rp'.length = n := by rw [hrp', List.length_take]; omega
  have hne : ∀ k, ρ k < 8 → ρ k ≠ 0 → (w.setCell ⟨cf.c, 4, none⟩ (.slice (some ⟨q, 0, none⟩) n cap)).heap[k]? = w.heap[k]? := fun k _ h0 => Below.heap_setCell _ _ _ _ (fun e => h0 (by rw [show k = cf.c from e]; exact r.r0))
  have hz : (w.setCell ⟨cf.c, 4, none⟩ (.slice (some ⟨q, 0, none⟩) n cap)).heap.size = w.heap.size := by simp [World.setCell]
  have hg4 : ρ g = 4 := r.r4 g (by rw [hlast]; simp)
  have hblk : w.heap[g]? = some (repBlk p) := r.rblk (g, p) (by rw [hlast, hrl, List.zip_append (by omega)]; simp)
  have hkn : ∀ k n', ρ k = n' → n' < 8 → n' ≠ 0 → (w.setCell ⟨cf.c, 4, none⟩ (.slice (some ⟨q, 0, none⟩) n cap)).heap[k]? = w.heap[k]? := fun k n' e h1 h2 => hne k (by omega) (by omega)
  have hnd := r.ndg
  rw [hlast, List.nodup_append] at hnd
  have hgn : g ∉ gs' := fun hm => hnd.2.2 g hm g (by simp) rfl
  have hq2 : ρ q = 2 := r.r2 q (by rw [hv]; rfl)
  refine ⟨q, cap, g, p, hrl, hcap, by rw [r.rcell, hv], ?_, ?_, ?_⟩
  · have h1 := hrow2.cells (show (Value.slice (some ⟨q, 0, none⟩) (n + 1) cap).ownBlock = some q from rfl) n (.pointer (some ⟨g, 0, none⟩)) (by
      unfold ptrs
      rw [hlast, List.map_append, List.getElem?_append_right (by simp; omega)]
      simp [hgl'])
    rw [addr_add] at h1; exact h1
  · refine ⟨h.bel.setCell (show cf.w0.heap.size ≤ cf.c from h.lt0.1) _, h.g0, fun j v hv' => ?_, fun j => ?_, (fun k => if k = g then 5 else ρ k), .slice (some ⟨q, 0, none⟩) n cap, gs', ev, xs, kp, ?_⟩
    · rw [cell_set_ne (fun hh => by rw [hh.2] at hv'; cases hv')]; exact h.cells j v hv'
    · rw [World.frozen?_setCell]; exact h.fr j
    · have hρ : ∀ k n', ρ k = n' → n' ≠ 4 → (if k = g then 5 else ρ k) = n' := fun k n' e hn' => by rw [if_neg (fun e' => hn' (by rw [← e, e']; exact hg4))]; exact e
      refine { rcell := World.cell?_setCell_same _ _ _ r.rcell, rrow := ?_, rblk := fun z hz' => ?_, rlen := by rw [hgl', hrl'], ocell := (hkn _ 1 r.r1 (by omega) (by omega)).trans r.ocell, orow := ownsRow_same r.orow fun k hk => hkn k 3 (r.r3 k hk) (by omega) (by omega), oev := r.oev, tpb := fun x hx => (hkn _ 6 (r.r6 x hx) (by omega) (by omega)).trans (r.tpb x hx), kpb := fun x hx => (hkn _ 7 (r.r7 x hx) (by omega) (by omega)).trans (r.kpb x hx), lim := fun k hk => ?_, r0 := hρ _ _ r.r0 (by omega), r1 := hρ _ _ r.r1 (by omega), r2 := fun k hk => ?_, r3 := fun k hk => hρ _ _ (r.r3 k hk) (by omega), r4 := fun k hk => ?_, r5 := fun k hk => ?_, r6 := fun k hk => hρ _ _ (r.r6 k hk) (by omega), r7 := fun k hk => hρ _ _ (r.r7 k hk) (by omega), ndg := hnd.1, ndx := ?_, ndt := r.ndt }
      · have h3 : w.ownsRow 0 91 1 (.slice (some ⟨q, 0, none⟩) n cap) n (ptrs gs') := by
          refine ownsRow_pop (last := [.pointer (some ⟨g, 0, none⟩)]) (by simp [ptrs, hgl']) ?_
          have : ptrs gs = ptrs gs' ++ [.pointer (some ⟨g, 0, none⟩)] := by rw [hlast]; simp [ptrs]
          rw [← this]; exact hrow2
        show World.ownsRow _ 0 91 1 _ rp'.length _
        rw [hrl']
        exact ownsRow_same h3 fun k hk => by cases hk; exact hkn q 2 hq2 (by omega) (by omega)
      · have hz1 : z ∈ gs.zip s.report := by rw [hlast, hrl, List.zip_append (by omega)]; exact List.mem_append_left _ hz'
        exact (hkn z.1 4 (r.r4 _ (List.of_mem_zip hz1).1) (by omega) (by omega)).trans (r.rblk z hz1)
      · rw [hz]
        by_cases e : k = g
        · rw [e]; exact r.lim g (by omega)
        · rw [if_neg e] at hk; exact r.lim k hk
      · cases hk; exact hρ _ _ hq2 (by omega)
      · rw [if_neg (fun e => hgn (by rw [← e]; exact hk))]; exact r.r4 k (by rw [hlast]; exact List.mem_append_left _ hk)
      · rcases List.mem_cons.1 hk with rfl | hk
        · rw [if_pos rfl]
        · exact hρ _ _ (r.r5 k hk) (by omega)
      · rw [List.nodup_cons]
        exact ⟨fun hm => by have := r.r5 g hm; omega, r.ndx⟩
  · rw [hkn g 4 hg4 (by omega) (by omega)]; exact hblk
end

/-- The state in the midst of it. -/
def frSt (s : CS) (k : Nat) : CS := { s with name := [], report := s.report.take k, evs := s.evs ++ (s.report.drop k).reverse.map fun p => Ev.of p.1 p.2 }
theorem frSt_end (s : CS) (k d : Nat) (h : k = d ∨ (k = s.report.length ∧ s.report.length ≤ d)) : frSt s k = flushRep s d := by
  rcases h with rfl | ⟨rfl, h⟩
  · rfl
  · unfold frSt flushRep
    rw [List.take_of_length_le (Nat.le_refl _), List.take_of_length_le h, List.drop_eq_nil_of_le (Nat.le_refl _), List.drop_eq_nil_of_le h]
theorem frSt_step (s : CS) (k : Nat) (hk : k < s.report.length) (p : List UInt8 × List UInt8) (hp : s.report.take (k + 1) = s.report.take k ++ [p]) : emit { frSt s (k + 1) with report := s.report.take k } (Ev.of p.1 p.2) = frSt s k := by
  unfold emit frSt
  have h1 : s.report.drop k = p :: s.report.drop (k + 1) := by
    rw [List.drop_eq_getElem_cons hk]
    congr 1
    have h2 : s.report.take (k + 1) = s.report.take k ++ [s.report[k]] := by rw [List.take_succ_eq_append_getElem hk]
    rw [h2] at hp
    exact (List.cons.inj (List.append_cancel_left hp)).1
  have h3 : (if (Ev.of p.1 p.2).test = [] then { Ev.of p.1 p.2 with test := ([] : List UInt8) } else Ev.of p.1 p.2) = Ev.of p.1 p.2 := by
    split
    · rename_i h; unfold Ev.of at h ⊢; simp at h ⊢; exact h
    · rfl
  dsimp only
  rw [h3, h1]
  simp

set_option maxRecDepth 100000 in
set_option maxHeartbeats 4000000 in
theorem flushRep_any {cf : Cf} {xm : List Nat} {tp : List (Nat × Obj)} {s : CS} {w : World} (h : Core cf xm tp s w) (d : Nat) (hd : d ≤ 1000000000000) (hr : s.report.length ≤ 10000000) (hn : s.evs.length + s.report.length ≤ 50000000) :
    Calls Tryd.prog 62 #[.pointer (some ⟨cf.c, 0, none⟩), .int .i64 d] w (ConvPost cf xm tp (flushRep s d) w) := by
  have hf := h.fr
  have c3 := h.cells 3 _ rfl
  have f3 := hf 3
  have hset := h.setName []
  have HS := Lib.hid hset
  have hlen : Hid (frSt s s.report.length = { s with name := [] }) := by show _ = _; unfold frSt; rw [List.take_of_length_le (Nat.le_refl _), List.drop_eq_nil_of_le (Nat.le_refl _)]; simp
  obtain ⟨N, hN⟩ : ∃ N, N = s.report.length := ⟨_, rfl⟩
  rw [← hN] at hr hn
  have HN := Lib.hid hN
  clear h hf hset hN
  go_enter Tryd.func62, Tryd.ntmps62
  go_wp2
  go_loopg [] N (fun k wr => k ≤ N ∧ (d ≤ k ∨ k = N) ∧ Hid (Core cf xm tp (frSt s k) wr) ∧ Hid (Same615 cf.c w wr))
  case atStart => exact ⟨Nat.le_refl _, .inr rfl, by rw [HN.out, hlen.out]; exact HS.out.1, HS.out.2⟩
  case round =>
    obtain ⟨hk, hkd, HC, HSM⟩ := hrel
    clear c3 f3
    have hlk : (frSt s gk).report.length = gk := by show (s.report.take gk).length = gk; rw [List.length_take, ← HN.out]; omega
    obtain ⟨a4, cap4, c4⟩ := HC.out.rep_len
    rw [hlk] at c4
    by_cases hlt : d < gk
    · obtain ⟨k', rfl⟩ : ∃ k', gk = k' + 1 := ⟨gk - 1, by omega⟩
      obtain ⟨q, cap, g, p, hp1, hcap, hc4, hq, hC2, hb2⟩ := HC.out.pop hlk
      have f4 := HC.out.fr 4
      have HC2 := Lib.hid hC2
      have HB2 := Lib.hid hb2
      have HP1 := Lib.hid hp1
      clear hC2 hb2 hp1 c4 hlk
      have hq' := fun nq => (show (wr.drewN nq).cell? ⟨q, k', none⟩ = some (.pointer (some ⟨g, 0, none⟩)) from hq)
      have b1 : (0 : Int) ≤ (k' : Int) := by omega
      have b2 : (k' : Int) < (k' : Int) + 1 := by omega
      have b3 : (k' : Int) ≤ (cap : Int) := by omega
      go_wp2_with fail
      go_quiet (fail)
      go_wp2_with fail
      go_region
      go_wp2_with fail
      have hW : ∀ m, Core cf (g :: xm) tp { frSt s (k' + 1) with report := s.report.take k' } ((wr.drewN m).setCell ⟨cf.c, 4, none⟩ (.slice (some ⟨q, 0, none⟩) k' cap)) ∧ ((wr.drewN m).setCell ⟨cf.c, 4, none⟩ (.slice (some ⟨q, 0, none⟩) k' cap)).heap[g]? = some (repBlk p) ∧
          Same615 cf.c wr ((wr.drewN m).setCell ⟨cf.c, 4, none⟩ (.slice (some ⟨q, 0, none⟩) k' cap)) := fun m => by
        have h1 := HC2.out.below (drewN_below _ m)
        have e : (frSt s (k' + 1)).report.take k' = s.report.take k' := by
          show (s.report.take (k' + 1)).take k' = _
          rw [List.take_take, Nat.min_eq_left (by omega)]
        rw [e] at h1
        exact ⟨h1, HB2.out, Same615.set wr 4 (by omega) _⟩
      have hp : s.report.take (k' + 1) = s.report.take k' ++ [p] := by
        have h1 := HP1.out
        have e : (frSt s (k' + 1)).report.take k' = s.report.take k' := by
          show (s.report.take (k' + 1)).take k' = _
          rw [List.take_take, Nat.min_eq_left (by omega)]
        rw [e] at h1
        exact h1
      have hst := frSt_step s k' (by rw [← HN.out]; omega) p hp
      have hev : (frSt s (k' + 1)).evs.length ≤ 100000000 := by
        show (s.evs ++ _).length ≤ _
        rw [List.length_append, List.length_map, List.length_reverse, List.length_drop, ← HN.out]
        omega
      refine (event_any (hW _).1 (by rw [(hW _).2.1, repBlk_ev]) (.inl ⟨rfl, rfl⟩) hev (by show 0 ≤ _; omega)).mono ?_
      rintro en w1 ⟨rfl, hC3, hS3⟩
      rw [hst] at hC3
      have HC3 := Lib.hid hC3
      have HS3 : Hid (Same615 cf.c w w1) := (HSM.out.trans (hW _).2.2).trans hS3
      clear hC3 hS3 hW hp hst hev hc4 hq hq' f4 hcap
      go_wp2_with fail
      go_roundg k'
      case measure => omega
      case rel => exact ⟨by omega, .inl (by omega), HC3, HS3⟩
    · have hge : gk = d ∨ (gk = s.report.length ∧ s.report.length ≤ d) := by
        rcases hkd with h | h
        · exact .inl (by omega)
        · exact .inr ⟨by rw [← HN.out]; exact h, by rw [← HN.out]; omega⟩
      have HE := Lib.hid (frSt_end s gk d hge)
      clear hge hkd
      go_wp2_with fail
      go_end0
      exact ⟨rfl, by rw [← HE.out]; exact HC.out, HSM.out⟩

end Go.Proofs.YtdljobmhnnegiaaDoor
