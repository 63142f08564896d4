/- writeFraming (function 63), and the call that it defers (80). -/
import Derived.Test.YtdljobmhnnegiaaDoorOutW
import Derived.Defers
import Derived.Recover
import Derived.Deep.CutBlock
namespace Go.Proofs.YtdljobmhnnegiaaDoor
open Go.RowKit

set_option maxRecDepth 100000 in
theorem fr_deferred {b c : Nat} {w : World} (u : FrameMode) (h1 : w.cell? ⟨b, 0, none⟩ = some (.pointer (some ⟨c, 0, none⟩))) {v : Value} (h2 : w.cell? ⟨c, 19, none⟩ = some v) (h3 : w.frozen? ⟨c, 19, none⟩ = false) :
    CallsD Tryd.prog 80 #[.pointer (some ⟨b, 0, none⟩)] u w fun e u' w' => u' = u ∧ (e = .returned (.tuple #[]) ∧ w' = w.setCell ⟨c, 19, none⟩ (.bool false)) := by
  go_enter_d Tryd.func80, Tryd.ntmps80
  go_wp2
  go_end0
  exact ⟨rfl, rfl⟩

/-- The source of what is written: bytes in a block that is kept, or none. -/
def Src (tp : List (Nat × Obj)) (b off : Nat) (l : List UInt8) : Prop := ∀ w' : World, (∀ p ∈ tp, w'.heap[p.1]? = some p.2) → Rd w' b off l
theorem Src.mono {tp tp' : List (Nat × Obj)} {b off : Nat} {l : List UInt8} (h : Src tp b off l) (hs : ∀ p ∈ tp, p ∈ tp') : Src tp' b off l := fun w' hw => h w' (fun p hp => hw p (hs p hp))

theorem OB.same {cf : Cf} {B : Nat} {s s' : CS} {w w' : World} (h : OB cf B s w) (hs : Same615 cf.c w w') (hfr : ∀ j, w'.frozen? ⟨cf.c, j, none⟩ = false) (hb : w'.heap[B]? = w.heap[B]?) (ho : s'.out = s.out) : OB cf B s' w' := by
  obtain ⟨hL, hlt⟩ := h
  unfold OB
  rw [ho]
  obtain ⟨raw, h1, h2⟩ := hL.buf
  exact ⟨⟨(hs 11 (by omega) (by omega)).trans hL.c0, (hs 12 (by omega) (by omega)).trans hL.c1, (hs 13 (by omega) (by omega)).trans hL.c2, (hs 14 (by omega) (by omega)).trans hL.c3, (hs 15 (by omega) (by omega)).trans hL.c4, hfr, ⟨raw, hb.trans h1, h2⟩, hL.rd.same hb, hL.len, hL.le, hL.ne⟩, hlt⟩
theorem Core.tdrop {cf : Cf} {b : Nat} {o : Obj} {xm : List Nat} {tp : List (Nat × Obj)} {s : CS} {w : World} (h : Core cf xm ((b, o) :: tp) s w) : Core cf xm tp s w := h.give.1.drop

set_option maxRecDepth 100000 in
set_option maxHeartbeats 4000000 in
theorem frame_any {cf : Cf} {B : Nat} {xm : List Nat} {tp : List (Nat × Obj)} {s : CS} {w : World} (h : Core cf (B :: xm) tp s w) (hb : OB cf B s w) {b2 off2 : Nat} {l : List UInt8} (hsrc : Src tp b2 off2 l)
    (n2 c2 : Nat) (hn2 : n2 = l.length) (hc2 : n2 ≤ c2) (hbig : n2 ≤ 1000000) (hev : pe s ≤ 90000000) :
    Calls Tryd.prog 63 #[.pointer (some ⟨cf.c, 0, none⟩), .slice (some ⟨b2, off2, none⟩) n2 c2] w (OPost cf B xm tp (frameF s l) (pe s + 2 * n2) w) := by
  have hmf : ∀ (fn : Fn) (first cap : Array Value) (w : World), (Instr.makeFunc fn first cap).run Tryd.prog w = .ok (.func fn first cap) w := fun _ _ _ _ => rfl
  -- the box of the receiver
  obtain ⟨b, hbb⟩ : ∃ b, b = w.heap.size := ⟨_, rfl⟩
  obtain ⟨w1, hw1⟩ : ∃ w1, w1 = w.alloc (.cells #[.pointer (some ⟨cf.c, 0, none⟩)] 69) := ⟨_, rfl⟩
  have hB := (h.xlt (by simp : B ∈ B :: xm)).2.1
  have hC1 : Core cf (B :: xm) ((b, .cells #[.pointer (some ⟨cf.c, 0, none⟩)] 69 (0, 0)) :: tp) s w1 := by
    rw [hbb, hw1]; exact (h.new _).take (heap_alloc_new _ _)
  have hOB1 : OB cf B s w1 := by rw [hw1]; exact ⟨hb.1.below ((Below.refl _ _).alloc (Nat.le_refl _) _), hb.2⟩
  have hS1 : Same610 cf.c w w1 := by rw [hw1]; exact (Same615.block (Below.heap_alloc _ _ _ h.lt0.2)).i
  have hset := hC1.setFraming true
  have d0 : ∀ (s' : CS) (w' : World), Core cf (B :: xm) ((b, .cells #[.pointer (some ⟨cf.c, 0, none⟩)] 69 (0, 0)) :: tp) s' w' → w'.cell? ⟨b, 0, none⟩ = some (.pointer (some ⟨cf.c, 0, none⟩)) := fun s' w' hC => by
    have := hC.tpb (List.mem_cons_self ..)
    simp at this
    simp [World.cell?, this]
  have c0 := d0 _ _ hC1
  have c19 := hC1.cells 19 _ rfl
  have f19 := hC1.fr 19
  have c0' : (w1.setCell ⟨cf.c, 19, none⟩ (.bool true)).cell? ⟨b, 0, none⟩ = some (.pointer (some ⟨cf.c, 0, none⟩)) := d0 _ _ hset.1
  have hOB2 : OB cf B { s with framing := true } (w1.setCell ⟨cf.c, 19, none⟩ (.bool true)) := hOB1.same hset.2 hset.1.fr (Below.heap_setCell _ _ _ _ hOB1.1.ne) rfl
  have hcall := outW_any hset.1 hOB2 (hsrc.mono fun p hp => List.mem_cons_of_mem _ hp) n2 c2 hn2 hc2 hbig hev
  have HC := Lib.hid hcall
  have HD := Lib.hid d0
  have HS : Hid (Same610 cf.c w (w1.setCell ⟨cf.c, 19, none⟩ (.bool true))) := hS1.trans hset.2.i
  have hbc : cf.c ≠ b := by have := h.lt0.2; omega
  clear hcall d0 hset hOB1 hOB2 hC1 hS1 h hb hsrc
  have HW1 := Lib.hid hw1
  have HBB := Lib.hid hbb
  subst hn2
  clear hw1 hbb hev
  go_enter_defers Tryd.func63, Tryd.ntmps63
  go_upto_region 1 with fail
  rw [← HBB.out, ← HW1.out]
  go_wp2_with fail
  refine HC.out.mono ?_
  rintro en w2 ⟨rfl, hC2, hS2, hOB2, hpe⟩
  have e0 := HD.out _ _ hC2
  have e19 := hC2.cells 19 _ rfl
  have g19 := hC2.fr 19
  have HC2 := Lib.hid (hC2.setFraming false)
  have HS2 := Lib.hid hS2
  have HO2 := Lib.hid hOB2
  have HPE := Lib.hid hpe
  clear hC2 hS2 hOB2 hpe c0 c19 f19 c0'
  go_wp2_with fail
  refine leaves_cons (f := 80) (args := #[.pointer (some ⟨b, 0, none⟩)]) (by simp) (by simp [go_sem]) ?_
  refine (fr_deferred .returning e0 e19 g19).mono ?_
  rintro e u' w3 ⟨rfl, rfl, rfl⟩
  exact ⟨_, results_none rfl _ _ _, rfl, HC2.out.1.tdrop, (HS.out.trans HS2.out).trans HC2.out.2.i, HO2.out.same HC2.out.2 HC2.out.1.fr (Below.heap_setCell _ _ _ _ HO2.out.1.ne) rfl, HPE.out⟩

end Go.Proofs.YtdljobmhnnegiaaDoor
