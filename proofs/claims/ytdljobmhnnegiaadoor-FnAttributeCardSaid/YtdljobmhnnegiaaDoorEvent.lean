/- writeEvent (function 54). -/
import Derived.Test.YtdljobmhnnegiaaDoorConv1
import Derived.Test.YtdljobmhnnegiaaDoorLate
namespace Go.Proofs.YtdljobmhnnegiaaDoor
open Go.RowKit

/-- An event in a block of its own. -/
def evBlk (e : Ev) (p0 : ByteArray) (ov : Value) : Obj :=
  .cells #[.string (S e.action), .string p0, .string (S e.test), ov, .string (S e.otype), .string (S e.fb), .string (S e.key), .string (S e.value), .string (S e.path)] 71 (0, 0)

theorem S_empty (l : List UInt8) : ((S l).data.toList == []) = decide (l = []) := by
  rw [S_toList]
  cases l <;> simp

set_option maxRecDepth 100000 in
set_option maxHeartbeats 4000000 in
theorem event_any {cf : Cf} {xm : List Nat} {tp : List (Nat × Obj)} {s : CS} {w : World} {g : Nat} (h : Core cf (g :: xm) tp s w) {e : Ev} {p0 : ByteArray} {ov : Value} (hg : w.heap[g]? = some (evBlk e p0 ov)) (ho : OutR tp e.output ov)
    (hn : s.evs.length ≤ 100000000) (hl : e.output.length ≤ 140737488351232) :
    Calls Tryd.prog 54 #[.pointer (some ⟨cf.c, 0, none⟩), .pointer (some ⟨g, 0, none⟩)] w (ConvPost cf xm tp (emit s e) w) := by
  have c0 := h.cells 0 _ rfl
  have c1 := h.cells 1 _ rfl
  have c3 := h.cells 3 _ rfl
  have hgc := (h.xlt (by simp : g ∈ g :: xm)).2.2
  obtain ⟨pp, pn, pc, rfl⟩ := ho.form
  unfold evBlk at hg
  have gj : ∀ j, w.cell? ⟨g, j, none⟩ = (#[Value.string (S e.action), .string p0, .string (S e.test), .slice pp pn pc, .string (S e.otype), .string (S e.fb), .string (S e.key), .string (S e.value), .string (S e.path)])[j]? := fun j => by simp only [World.cell?, hg]; rfl
  have g1 := gj 1
  have g2 := gj 2
  have gf : ∀ j, w.frozen? ⟨g, j, none⟩ = false := fun j => by simp [World.frozen?, hg]
  have gf1 := gf 1
  have gf2 := gf 2
  simp only [List.getElem?_toArray, List.getElem?_cons_zero, List.getElem?_cons_succ] at g1 g2
  have HG := Lib.hid hg
  have HCO := Lib.hid h
  have HO := Lib.hid ho
  have HN := Lib.hid hn
  have HL := Lib.hid hl
  -- the call, whatever was written into the event
  have HKEY : Hid (∀ (e' : Ev) (W : World), Core cf (g :: xm) tp s W → W.heap[g]? = some (evBlk e' (S cf.pkg) (.slice pp pn pc)) → e'.output = e.output →
      Calls Tryd.prog 38 #[.agg #[.string (S e'.action), .string (S cf.pkg), .string (S e'.test), .slice pp pn pc, .string (S e'.otype), .string (S e'.fb), .string (S e'.key), .string (S e'.value), .string (S e'.path)], .pointer (some ⟨cf.O, 0, none⟩)] W.drew
        (ConvPost cf xm ((g, evBlk e' (S cf.pkg) (.slice pp pn pc)) :: tp) { s with evs := s.evs ++ [e'] } W.drew)) := fun e' W hC hb he =>
    conv1_any ((hC.take hb).drew) (by rw [he]; exact HO.out.mono fun p hp => List.mem_cons_of_mem _ hp) HN.out (by rw [he]; exact HL.out)
  have HX : Hid (∀ (e' : Ev) (W : World), W.heap[g]? = some (evBlk e' (S cf.pkg) (.slice pp pn pc)) → ∀ j, W.cell? ⟨g, j, none⟩ = (#[Value.string (S e'.action), .string (S cf.pkg), .string (S e'.test), .slice pp pn pc, .string (S e'.otype), .string (S e'.fb), .string (S e'.key), .string (S e'.value), .string (S e'.path)])[j]?) :=
    fun e' W hb j => by simp only [World.cell?, hb, evBlk]; rfl
  have HEND : Hid (∀ (e' : Ev) (s' : CS) (W w1 : World), Same615 cf.c w W → Core cf xm ((g, evBlk e' (S cf.pkg) (.slice pp pn pc)) :: tp) s' w1 → Same615 cf.c W.drew w1 → Core cf xm tp s' w1 ∧ Same615 cf.c w w1) :=
    fun e' s' W w1 h1 h2 h3 => ⟨h2.give.1.drop, h1.trans h3⟩
  have hp1 := heap_setCell_at (o := 1) hg (.string (S cf.pkg))
  have hC1 := h.off (Off.set (b := g) (o := 1) (by simp : g ∈ [g]) (.string (S cf.pkg)) w) (by simp)
  have hS1 : Same615 cf.c w (w.setCell ⟨g, 1, none⟩ (.string (S cf.pkg))) := Same615.setx w hgc _
  clear gj gf hn hl ho hg h hgc
  by_cases hte : e.test = []
  · have hW : Hid (Core cf (g :: xm) tp s ((w.setCell ⟨g, 1, none⟩ (.string (S cf.pkg))).setCell ⟨g, 2, none⟩ (.string (S s.name))) ∧
        ((w.setCell ⟨g, 1, none⟩ (.string (S cf.pkg))).setCell ⟨g, 2, none⟩ (.string (S s.name))).heap[g]? = some (evBlk { e with test := s.name } (S cf.pkg) (.slice pp pn pc)) ∧
        Same615 cf.c w ((w.setCell ⟨g, 1, none⟩ (.string (S cf.pkg))).setCell ⟨g, 2, none⟩ (.string (S s.name)))) :=
      ⟨hC1.off (Off.set (b := g) (o := 2) (by simp : g ∈ [g]) _ _) (by simp), heap_setCell_at (o := 2) hp1 (.string (S s.name)), hS1.trans (Same615.setx _ (HCO.out.xlt (by simp : g ∈ g :: xm)).2.2 _)⟩
    have HEM : Hid (emit s e = { s with evs := s.evs ++ [{ e with test := s.name }] }) := by show _ = _; unfold emit; rw [if_pos hte]
    clear hp1 hC1 hS1
    obtain ⟨W, hWW⟩ : ∃ W, W = (w.setCell ⟨g, 1, none⟩ (.string (S cf.pkg))).setCell ⟨g, 2, none⟩ (.string (S s.name)) := ⟨_, rfl⟩
    rw [← hWW] at hW
    have HWW := Lib.hid hWW
    clear hWW
    have HCL := Lib.hid (HKEY.out { e with test := s.name } W hW.out.1 hW.out.2.1 rfl)
    have hx := HX.out { e with test := s.name } W hW.out.2.1
    have d0 := hW.out.1.cells 0 _ rfl
    have HY : Hid (∀ s' w1, Core cf xm ((g, evBlk { e with test := s.name } (S cf.pkg) (.slice pp pn pc)) :: tp) s' w1 → w1.heap[g]? = some (evBlk { e with test := s.name } (S cf.pkg) (.slice pp pn pc))) := fun s' w1 h => h.tpb (List.mem_cons_self ..)
    have x0 := hx 0
    have x1 := hx 1
    have x2 := hx 2
    have x3 := hx 3
    have x4 := hx 4
    have x5 := hx 5
    have x6 := hx 6
    have x7 := hx 7
    have x8 := hx 8
    simp only [List.getElem?_toArray, List.getElem?_cons_zero, List.getElem?_cons_succ] at x0 x1 x2 x3 x4 x5 x6 x7 x8
    clear hx
    go_enter Tryd.func54, Tryd.ntmps54
    go_wp2_with fail
    rw [← HWW.out]
    clear c0 c1 c3 g1 g2 gf1 gf2
    have hS0 : (fun w' => w'.cell? ⟨cf.c, 0, none⟩ = some (.func (.func 38) #[] #[.pointer (some ⟨cf.O, 0, none⟩)]) ∧ w'.cell? ⟨g, 0, none⟩ = some (.string (S e.action)) ∧ w'.cell? ⟨g, 1, none⟩ = some (.string (S cf.pkg)) ∧ w'.cell? ⟨g, 2, none⟩ = some (.string (S s.name)) ∧ w'.cell? ⟨g, 3, none⟩ = some (.slice pp pn pc) ∧ w'.cell? ⟨g, 4, none⟩ = some (.string (S e.otype)) ∧ w'.cell? ⟨g, 5, none⟩ = some (.string (S e.fb)) ∧ w'.cell? ⟨g, 6, none⟩ = some (.string (S e.key)) ∧ w'.cell? ⟨g, 7, none⟩ = some (.string (S e.value)) ∧ w'.cell? ⟨g, 8, none⟩ = some (.string (S e.path))) W.drew := ⟨d0, x0, x1, x2, x3, x4, x5, x6, x7, x8⟩
    refine wp_region_late (by kernel_rfl) (fun w' => w'.cell? ⟨cf.c, 0, none⟩ = some (.func (.func 38) #[] #[.pointer (some ⟨cf.O, 0, none⟩)]) ∧ w'.cell? ⟨g, 0, none⟩ = some (.string (S e.action)) ∧ w'.cell? ⟨g, 1, none⟩ = some (.string (S cf.pkg)) ∧ w'.cell? ⟨g, 2, none⟩ = some (.string (S s.name)) ∧ w'.cell? ⟨g, 3, none⟩ = some (.slice pp pn pc) ∧ w'.cell? ⟨g, 4, none⟩ = some (.string (S e.otype)) ∧ w'.cell? ⟨g, 5, none⟩ = some (.string (S e.fb)) ∧ w'.cell? ⟨g, 6, none⟩ = some (.string (S e.key)) ∧ w'.cell? ⟨g, 7, none⟩ = some (.string (S e.value)) ∧ w'.cell? ⟨g, 8, none⟩ = some (.string (S e.path))) (fun _ => false) ?_
    refine LateAny.take (i := 0) (v := .pointer (some ⟨cf.c, 0, none⟩)) rfl (by kernel_rfl) (by kernel_rfl) (by kernel_rfl) (by kernel_rfl) (fun _ _ _ h => h) (Or.inl ⟨by rfl, fun w' h => by go_simp⟩) hS0 ?_
    refine LateAny.take (i := 1) (v := .pointer (some ⟨cf.c, 0, none⟩)) rfl (by kernel_rfl) (by kernel_rfl) (by kernel_rfl) (by kernel_rfl) (fun _ _ _ h => h) (Or.inl ⟨by rfl, fun w' h => by go_simp⟩) hS0 ?_
    refine LateAny.take (i := 2) (v := .pointer (some ⟨cf.c, 0, none⟩)) rfl (by kernel_rfl) (by kernel_rfl) (by kernel_rfl) (by kernel_rfl) (fun _ _ _ h => h) (Or.inl ⟨by rfl, fun w' h => by go_simp⟩) hS0 ?_
    refine LateAny.take (i := 3) (v := .func (.func 38) #[] #[.pointer (some ⟨cf.O, 0, none⟩)]) rfl (by kernel_rfl) (by kernel_rfl) (by kernel_rfl) (by kernel_rfl) (fun _ _ _ h => h) (Or.inl ⟨by rfl, fun w' h => by go_simp⟩) hS0 ?_
    refine LateAny.take (i := 4) (v := .pointer (some ⟨g, 0, none⟩)) rfl (by kernel_rfl) (by kernel_rfl) (by kernel_rfl) (by kernel_rfl) (fun _ _ _ h => h) (Or.inl ⟨by rfl, fun w' h => by go_simp⟩) hS0 ?_
    refine LateAny.take (i := 5) (v := .pointer (some ⟨g, 0, none⟩)) rfl (by kernel_rfl) (by kernel_rfl) (by kernel_rfl) (by kernel_rfl) (fun _ _ _ h => h) (Or.inl ⟨by rfl, fun w' h => by go_simp⟩) hS0 ?_
    refine LateAny.take (i := 6) (v := .agg #[.string (S e.action), .string (S cf.pkg), .string (S s.name), .slice pp pn pc, .string (S e.otype), .string (S e.fb), .string (S e.key), .string (S e.value), .string (S e.path)]) rfl (by kernel_rfl) (by kernel_rfl) (by kernel_rfl) (by kernel_rfl) (fun _ _ _ h => h) (Or.inl ⟨by rfl, fun w' h => by go_simp⟩) hS0 ?_
    refine LateAny.ready (rs := [7]) (by kernel_rfl) (by simp) ?_
    refine LateReady.cons rfl (fun K hK => ?_) LateReady.nil
    go_simp
    refine HCL.out.mono ?_
    rintro en w1 ⟨rfl, hC1, hS1⟩
    dsimp only
    have z := HX.out _ _ (HY.out _ _ hC1)
    refine hK.out _ _ (fun _ => ⟨hC1.cells 0 _ rfl, z 0, z 1, z 2, z 3, z 4, z 5, z 6, z 7, z 8⟩) ?_
    clear hK K z
    refine LateAny.done (by kernel_rfl) ?_ _
    go_end0
    refine ⟨rfl, ?_⟩
    rw [HEM.out]
    exact HEND.out _ _ _ _ hW.out.2.2 hC1 hS1
  · have hW : Hid (Core cf (g :: xm) tp s (w.setCell ⟨g, 1, none⟩ (.string (S cf.pkg))) ∧ (w.setCell ⟨g, 1, none⟩ (.string (S cf.pkg))).heap[g]? = some (evBlk e (S cf.pkg) (.slice pp pn pc)) ∧ Same615 cf.c w (w.setCell ⟨g, 1, none⟩ (.string (S cf.pkg)))) := ⟨hC1, hp1, hS1⟩
    have HEM : Hid (emit s e = { s with evs := s.evs ++ [e] }) := by show _ = _; unfold emit; rw [if_neg hte]
    have hte2 : ((S e.test).data.toList == []) = false := by rw [S_empty]; simpa using hte
    clear hp1 hC1 hS1 hte
    obtain ⟨W, hWW⟩ : ∃ W, W = w.setCell ⟨g, 1, none⟩ (.string (S cf.pkg)) := ⟨_, rfl⟩
    rw [← hWW] at hW
    have HWW := Lib.hid hWW
    clear hWW
    have HCL := Lib.hid (HKEY.out e W hW.out.1 hW.out.2.1 rfl)
    have hx := HX.out e W hW.out.2.1
    have d0 := hW.out.1.cells 0 _ rfl
    have HY : Hid (∀ s' w1, Core cf xm ((g, evBlk e (S cf.pkg) (.slice pp pn pc)) :: tp) s' w1 → w1.heap[g]? = some (evBlk e (S cf.pkg) (.slice pp pn pc))) := fun s' w1 h => h.tpb (List.mem_cons_self ..)
    have x0 := hx 0
    have x1 := hx 1
    have x2 := hx 2
    have x3 := hx 3
    have x4 := hx 4
    have x5 := hx 5
    have x6 := hx 6
    have x7 := hx 7
    have x8 := hx 8
    simp only [List.getElem?_toArray, List.getElem?_cons_zero, List.getElem?_cons_succ] at x0 x1 x2 x3 x4 x5 x6 x7 x8
    clear hx
    go_enter Tryd.func54, Tryd.ntmps54
    go_wp2_with fail
    rw [← HWW.out]
    clear c0 c1 c3 g1 g2 gf1 gf2
    have hS0 : (fun w' => w'.cell? ⟨cf.c, 0, none⟩ = some (.func (.func 38) #[] #[.pointer (some ⟨cf.O, 0, none⟩)]) ∧ w'.cell? ⟨g, 0, none⟩ = some (.string (S e.action)) ∧ w'.cell? ⟨g, 1, none⟩ = some (.string (S cf.pkg)) ∧ w'.cell? ⟨g, 2, none⟩ = some (.string (S e.test)) ∧ w'.cell? ⟨g, 3, none⟩ = some (.slice pp pn pc) ∧ w'.cell? ⟨g, 4, none⟩ = some (.string (S e.otype)) ∧ w'.cell? ⟨g, 5, none⟩ = some (.string (S e.fb)) ∧ w'.cell? ⟨g, 6, none⟩ = some (.string (S e.key)) ∧ w'.cell? ⟨g, 7, none⟩ = some (.string (S e.value)) ∧ w'.cell? ⟨g, 8, none⟩ = some (.string (S e.path))) W.drew := ⟨d0, x0, x1, x2, x3, x4, x5, x6, x7, x8⟩
    refine wp_region_late (by kernel_rfl) (fun w' => w'.cell? ⟨cf.c, 0, none⟩ = some (.func (.func 38) #[] #[.pointer (some ⟨cf.O, 0, none⟩)]) ∧ w'.cell? ⟨g, 0, none⟩ = some (.string (S e.action)) ∧ w'.cell? ⟨g, 1, none⟩ = some (.string (S cf.pkg)) ∧ w'.cell? ⟨g, 2, none⟩ = some (.string (S e.test)) ∧ w'.cell? ⟨g, 3, none⟩ = some (.slice pp pn pc) ∧ w'.cell? ⟨g, 4, none⟩ = some (.string (S e.otype)) ∧ w'.cell? ⟨g, 5, none⟩ = some (.string (S e.fb)) ∧ w'.cell? ⟨g, 6, none⟩ = some (.string (S e.key)) ∧ w'.cell? ⟨g, 7, none⟩ = some (.string (S e.value)) ∧ w'.cell? ⟨g, 8, none⟩ = some (.string (S e.path))) (fun _ => false) ?_
    refine LateAny.take (i := 0) (v := .pointer (some ⟨cf.c, 0, none⟩)) rfl (by kernel_rfl) (by kernel_rfl) (by kernel_rfl) (by kernel_rfl) (fun _ _ _ h => h) (Or.inl ⟨by rfl, fun w' h => by go_simp⟩) hS0 ?_
    refine LateAny.take (i := 1) (v := .pointer (some ⟨cf.c, 0, none⟩)) rfl (by kernel_rfl) (by kernel_rfl) (by kernel_rfl) (by kernel_rfl) (fun _ _ _ h => h) (Or.inl ⟨by rfl, fun w' h => by go_simp⟩) hS0 ?_
    refine LateAny.take (i := 2) (v := .pointer (some ⟨cf.c, 0, none⟩)) rfl (by kernel_rfl) (by kernel_rfl) (by kernel_rfl) (by kernel_rfl) (fun _ _ _ h => h) (Or.inl ⟨by rfl, fun w' h => by go_simp⟩) hS0 ?_
    refine LateAny.take (i := 3) (v := .func (.func 38) #[] #[.pointer (some ⟨cf.O, 0, none⟩)]) rfl (by kernel_rfl) (by kernel_rfl) (by kernel_rfl) (by kernel_rfl) (fun _ _ _ h => h) (Or.inl ⟨by rfl, fun w' h => by go_simp⟩) hS0 ?_
    refine LateAny.take (i := 4) (v := .pointer (some ⟨g, 0, none⟩)) rfl (by kernel_rfl) (by kernel_rfl) (by kernel_rfl) (by kernel_rfl) (fun _ _ _ h => h) (Or.inl ⟨by rfl, fun w' h => by go_simp⟩) hS0 ?_
    refine LateAny.take (i := 5) (v := .pointer (some ⟨g, 0, none⟩)) rfl (by kernel_rfl) (by kernel_rfl) (by kernel_rfl) (by kernel_rfl) (fun _ _ _ h => h) (Or.inl ⟨by rfl, fun w' h => by go_simp⟩) hS0 ?_
    refine LateAny.take (i := 6) (v := .agg #[.string (S e.action), .string (S cf.pkg), .string (S e.test), .slice pp pn pc, .string (S e.otype), .string (S e.fb), .string (S e.key), .string (S e.value), .string (S e.path)]) rfl (by kernel_rfl) (by kernel_rfl) (by kernel_rfl) (by kernel_rfl) (fun _ _ _ h => h) (Or.inl ⟨by rfl, fun w' h => by go_simp⟩) hS0 ?_
    refine LateAny.ready (rs := [7]) (by kernel_rfl) (by simp) ?_
    refine LateReady.cons rfl (fun K hK => ?_) LateReady.nil
    go_simp
    refine HCL.out.mono ?_
    rintro en w1 ⟨rfl, hC1, hS1⟩
    dsimp only
    have z := HX.out _ _ (HY.out _ _ hC1)
    refine hK.out _ _ (fun _ => ⟨hC1.cells 0 _ rfl, z 0, z 1, z 2, z 3, z 4, z 5, z 6, z 7, z 8⟩) ?_
    clear hK K z
    refine LateAny.done (by kernel_rfl) ?_ _
    go_end0
    refine ⟨rfl, ?_⟩
    rw [HEM.out]
    exact HEND.out _ _ _ _ hW.out.2.2 hC1 hS1
end Go.Proofs.YtdljobmhnnegiaaDoor
