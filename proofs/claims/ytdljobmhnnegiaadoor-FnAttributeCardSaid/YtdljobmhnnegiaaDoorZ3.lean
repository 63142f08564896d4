/- NewConverter, impl.Convert, its events cell by cell, laws.works. -/
import Derived.Test.YtdljobmhnnegiaaDoorZ2
import Derived.Test.YtdljobmhnnegiaaDoorZZLines
import Derived.Test.YtdljobmhnnegiaaDoorLate
import Derived.Test.YtdljobmhnnegiaaDoorBench

/- NewConverter. -/
namespace Go.Proofs.YtdljobmhnnegiaaDoor
open Go.RowKit

set_option maxRecDepth 100000 in
set_option maxHeartbeats 4000000 in
theorem new_conv {w0 w : World} {O : Nat} {pkg : List UInt8} (hbel : Below w0.heap.size w0 w) (g0 : G5 w0) (hO : w.heap[O]? = some (.cells #[.slice none 0 0] 38 (0, 0))) (lO : w0.heap.size ≤ O) :
    Calls Tryd.prog 37 #[.func (.func 38) #[] #[.pointer (some ⟨O, 0, none⟩)], .string (S pkg), .int .i64 0] w fun e w' => ∃ cf B1 B2, cf.w0 = w0 ∧ cf.O = O ∧ cf.pkg = pkg ∧ e = .returned (.pointer (some ⟨cf.c, 0, none⟩)) ∧ St cf B1 B2 [] startF w' := by
  obtain ⟨raw1, hz1, hm1⟩ := make_bytes 4096 (by omega)
  obtain ⟨raw2, hz2, hm2⟩ := make_bytes 1024 (by omega)
  have hm1 : ∀ w : World, (Instr.makeSlice 23 (.int .i64 0) (.int .i64 4096)).run Tryd.prog w = _ := hm1
  have hm2 : ∀ w : World, (Instr.makeSlice 23 (.int .i64 0) (.int .i64 1024)).run Tryd.prog w = _ := hm2
  have hmf : ∀ (fn : Fn) (first cap : Array Value) (w : World), (Instr.makeFunc fn first cap).run Tryd.prog w = .ok (.func fn first cap) w := fun _ _ _ _ => rfl
  obtain ⟨w1, hw1⟩ : ∃ w1, w1 = w.alloc (.cells zeroConv 89) := ⟨_, rfl⟩
  obtain ⟨c, hc⟩ : ∃ c, c = w.heap.size := ⟨_, rfl⟩
  have HW1 : Hid (w.alloc (.cells #[.nilFunc, .string ⟨#[]⟩, .int .i64 0, .string ⟨#[]⟩, .slice none 0 0, .string ⟨#[]⟩, .slice none 0 0, .bool false, .nilFunc, .nilFunc, .bool false, .slice none 0 0, .bool false, .nilFunc, .nilFunc, .bool false, .bool false, .bool false, .bool false, .bool false, .string ⟨#[]⟩] 89) = w1 ∧ w.heap.size = c ∧ w1.heap.size = c + 1) := by rw [hw1, hc]; exact ⟨rfl, rfl, by simp⟩
  have hb1 : w1.heap[c]? = some (.cells zeroConv 89 (0, 0)) := by rw [hw1, hc]; exact heap_alloc_new _ _
  have HB1 := Lib.hid hb1
  have HH : Hid (Below w0.heap.size w0 w1 ∧ G5 w0 ∧ w1.heap[O]? = some (.cells #[.slice none 0 0] 38 (0, 0)) ∧ w0.heap.size ≤ O ∧ w0.heap.size ≤ c ∧ c ≠ O) := by
    have hOl := lt_of_block hO
    rw [hw1, hc]
    exact ⟨hbel.alloc hbel.size _, g0, (Below.heap_alloc _ _ _ hOl).trans hO, lO, hbel.size, by omega⟩
  clear hw1 hc hb1 hbel g0 hO lO
  go_enter Tryd.func37, Tryd.ntmps37
  go_upto_region 2 with fail
  rw [HW1.out.1, HW1.out.2.1]
  refine wp_region_late (by kernel_rfl) (fun _ => True) (fun _ => false) ?_
  refine LateAny.take (i := 0) (v := .pointer (some ⟨c, 0, none⟩)) rfl (by kernel_rfl) (by kernel_rfl) (by kernel_rfl) (by kernel_rfl) (fun _ _ _ h => h) (Or.inl ⟨by rfl, fun w' _h => by go_simp⟩) trivial ?_
  refine LateAny.take (i := 1) (v := .func (.func 38) #[] #[.pointer (some ⟨O, 0, none⟩)]) rfl (by kernel_rfl) (by kernel_rfl) (by kernel_rfl) (by kernel_rfl) (fun _ _ _ h => h) (Or.inl ⟨by rfl, fun w' _h => by go_simp⟩) trivial ?_
  refine LateAny.take (i := 2) (v := .string (S pkg)) rfl (by kernel_rfl) (by kernel_rfl) (by kernel_rfl) (by kernel_rfl) (fun _ _ _ h => h) (Or.inl ⟨by rfl, fun w' _h => by go_simp⟩) trivial ?_
  refine LateAny.take (i := 3) (v := .int .i64 0) rfl (by kernel_rfl) (by kernel_rfl) (by kernel_rfl) (by kernel_rfl) (fun _ _ _ h => h) (Or.inl ⟨by rfl, fun w' _h => by go_simp⟩) trivial ?_
  refine LateAny.take (i := 5) (v := .pointer (some ⟨c, 0, none⟩)) rfl (by kernel_rfl) (by kernel_rfl) (by kernel_rfl) (by kernel_rfl) (fun _ _ _ h => h) (Or.inl ⟨by rfl, fun w' _h => by go_simp⟩) trivial ?_
  refine LateAny.take (i := 7) (v := .pointer (some ⟨c, 0, none⟩)) rfl (by kernel_rfl) (by kernel_rfl) (by kernel_rfl) (by kernel_rfl) (fun _ _ _ h => h) (Or.inl ⟨by rfl, fun w' _h => by go_simp⟩) trivial ?_
  refine LateAny.take (i := 8) (v := .pointer (some ⟨c, 0, none⟩)) rfl (by kernel_rfl) (by kernel_rfl) (by kernel_rfl) (by kernel_rfl) (fun _ _ _ h => h) (Or.inl ⟨by rfl, fun w' _h => by go_simp⟩) trivial ?_
  refine LateAny.take (i := 9) (v := .pointer (some ⟨c, 11, none⟩)) rfl (by kernel_rfl) (by kernel_rfl) (by kernel_rfl) (by kernel_rfl) (fun _ _ _ h => h) (Or.inl ⟨by rfl, fun w' _h => by go_simp⟩) trivial ?_
  refine LateAny.take (i := 13) (v := .pointer (some ⟨c, 0, none⟩)) rfl (by kernel_rfl) (by kernel_rfl) (by kernel_rfl) (by kernel_rfl) (fun _ _ _ h => h) (Or.inl ⟨by rfl, fun w' _h => by go_simp⟩) trivial ?_
  refine LateAny.take (i := 15) (v := .pointer (some ⟨c, 0, none⟩)) rfl (by kernel_rfl) (by kernel_rfl) (by kernel_rfl) (by kernel_rfl) (fun _ _ _ h => h) (Or.inl ⟨by rfl, fun w' _h => by go_simp⟩) trivial ?_
  refine LateAny.take (i := 6) (v := .func (.func 52) #[.pointer (some ⟨c, 0, none⟩)] #[]) rfl (by kernel_rfl) (by kernel_rfl) (by kernel_rfl) (by kernel_rfl) (fun _ _ _ h => h) (Or.inl ⟨by rfl, fun w' _h => by go_simp⟩) trivial ?_
  refine LateAny.take (i := 10) (v := .func (.func 50) #[.pointer (some ⟨c, 11, none⟩)] #[]) rfl (by kernel_rfl) (by kernel_rfl) (by kernel_rfl) (by kernel_rfl) (fun _ _ _ h => h) (Or.inl ⟨by rfl, fun w' _h => by go_simp⟩) trivial ?_
  refine LateAny.take (i := 14) (v := .func (.func 53) #[.pointer (some ⟨c, 0, none⟩)] #[]) rfl (by kernel_rfl) (by kernel_rfl) (by kernel_rfl) (by kernel_rfl) (fun _ _ _ h => h) (Or.inl ⟨by rfl, fun w' _h => by go_simp⟩) trivial ?_
  refine LateAny.take (i := 16) (v := .func (.func 53) #[.pointer (some ⟨c, 0, none⟩)] #[]) rfl (by kernel_rfl) (by kernel_rfl) (by kernel_rfl) (by kernel_rfl) (fun _ _ _ h => h) (Or.inl ⟨by rfl, fun w' _h => by go_simp⟩) trivial ?_
  refine LateAny.ready (rs := [4, 12]) (by kernel_rfl) (by simp) ?_
  refine LateReady.cons rfl (fun K hK => ?_) (LateReady.cons rfl (fun K hK => ?_) LateReady.nil)
  · go_simp
    refine hK.out _ _ (fun _ => trivial) ?_
    clear hK K
    refine LateAny.take (i := 11) (v := .agg #[.slice (some ⟨w1.heap.size, 0, none⟩) 0 4096, .bool false, .func (.func 52) #[.pointer (some ⟨c, 0, none⟩)] #[], .func (.func 50) #[.pointer (some ⟨c, 11, none⟩)] #[], .bool false]) rfl (by kernel_rfl) (by kernel_rfl) (by kernel_rfl) (by kernel_rfl) (fun _ _ _ h => h) (Or.inl ⟨by rfl, fun w' _h => by go_simp⟩) trivial ?_
    refine LateAny.ready (rs := [12]) (by kernel_rfl) (by simp) ?_
    refine LateReady.cons rfl (fun K hK => ?_) LateReady.nil
    go_simp
    refine hK.out _ _ (fun _ => trivial) ?_
    clear hK K
    refine LateAny.take (i := 17) (v := .agg #[.slice (some ⟨w1.heap.size + 1, 0, none⟩) 0 1024, .bool false, .func (.func 53) #[.pointer (some ⟨c, 0, none⟩)] #[], .func (.func 53) #[.pointer (some ⟨c, 0, none⟩)] #[], .bool false]) rfl (by kernel_rfl) (by kernel_rfl) (by kernel_rfl) (by kernel_rfl) (fun _ _ _ h => h) (Or.inl ⟨by rfl, fun w' _h => by go_simp⟩) trivial ?_
    refine LateAny.take (i := 18) (v := .agg (#[.func (.func 38) #[] #[.pointer (some ⟨O, 0, none⟩)], .string (S pkg), .int .i64 0, .string ⟨#[]⟩, .slice none 0 0, .string ⟨#[]⟩, .slice (some ⟨w1.heap.size, 0, none⟩) 0 4096, .bool false, .func (.func 52) #[.pointer (some ⟨c, 0, none⟩)] #[], .func (.func 50) #[.pointer (some ⟨c, 11, none⟩)] #[], .bool false, .slice (some ⟨w1.heap.size + 1, 0, none⟩) 0 1024, .bool false, .func (.func 53) #[.pointer (some ⟨c, 0, none⟩)] #[], .func (.func 53) #[.pointer (some ⟨c, 0, none⟩)] #[], .bool false, .bool false, .bool false, .bool false, .bool false, .string ⟨#[]⟩])) rfl (by kernel_rfl) (by kernel_rfl) (by kernel_rfl) (by kernel_rfl) (fun _ _ _ h => h) (Or.inl ⟨by rfl, fun w' _h => by go_simp⟩) trivial ?_
    refine LateAny.take (i := 19) (v := .pointer (some ⟨c, 0, none⟩)) rfl (by kernel_rfl) (by kernel_rfl) (by kernel_rfl) (by kernel_rfl) (fun _ _ _ h => h) (Or.inl ⟨by rfl, fun w' _h => by go_simp⟩) trivial ?_
    refine LateAny.ready (rs := [20]) (by kernel_rfl) (by simp) ?_
    refine LateReady.cons rfl (fun K hK => ?_) LateReady.nil
    have hV : Below w1.heap.size w1 ((w1.alloc (.cells raw1 5)).alloc (.cells raw2 5)).drew := (((Below.refl _ w1).alloc (Nat.le_refl _) _).alloc (by simp) _).drew
    have HR := Lib.hid (new_rest (V := ((w1.alloc (.cells raw1 5)).alloc (.cells raw2 5)).drew) (B1 := w1.heap.size) (B2 := w1.heap.size + 1) (pkg := pkg) (raw1 := raw1) (raw2 := raw2) HH.out.1 HH.out.2.1 HH.out.2.2.1 HB1.out HH.out.2.2.2.1 HH.out.2.2.2.2.1 HH.out.2.2.2.2.2 hV (by show ((w1.alloc _).alloc _).heap[_]? = _; rw [Below.heap_alloc _ _ _ (by simp)]; exact heap_alloc_new _ _) hz1 (by show ((w1.alloc _).alloc _).heap[_]? = _; have := heap_alloc_new (w1.alloc (.cells raw1 5)) (.cells raw2 5); rw [show (w1.alloc (.cells raw1 5)).heap.size = w1.heap.size + 1 by simp] at this; exact this) hz2 (by omega) (by omega) (by omega))
    have hVc := (hV.block c (lt_of_block HB1.out)).trans HB1.out
    refine wp_store_row 89 (.tmp 28) (.tmp 27) rfl c (newCells c O pkg (w1.heap.size) (w1.heap.size + 1)) rfl rfl 89 zeroConv hVc info89 rfl (newCells_one ..) ?_
    clear hV hVc
    refine hK.out _ _ (fun _ => trivial) ?_
    clear hK K
    refine LateAny.done (by kernel_rfl) ?_ _
    obtain ⟨V, hVV⟩ : ∃ V, V = (((w1.alloc (.cells raw1 5)).alloc (.cells raw2 5)).drew).setRow c (newCells c O pkg (w1.heap.size) (w1.heap.size + 1)) := ⟨_, rfl⟩
    rw [← hVV] at HR
    rw [← hVV]
    clear hVV
    go_wp2_with fail
    refine HR.out.mono ?_
    rintro en w2 ⟨rfl, hS⟩
    have HS := Lib.hid hS
    clear hS HR
    dsimp only
    go_wp2_with fail
    go_ret
    exact ⟨⟨c, O, w0, pkg⟩, w1.heap.size, w1.heap.size + 1, rfl, rfl, rfl, rfl, HS.out⟩
  · go_simp
    refine hK.out _ _ (fun _ => trivial) ?_
    clear hK K
    refine LateAny.take (i := 17) (v := .agg #[.slice (some ⟨w1.heap.size, 0, none⟩) 0 1024, .bool false, .func (.func 53) #[.pointer (some ⟨c, 0, none⟩)] #[], .func (.func 53) #[.pointer (some ⟨c, 0, none⟩)] #[], .bool false]) rfl (by kernel_rfl) (by kernel_rfl) (by kernel_rfl) (by kernel_rfl) (fun _ _ _ h => h) (Or.inl ⟨by rfl, fun w' _h => by go_simp⟩) trivial ?_
    refine LateAny.ready (rs := [4]) (by kernel_rfl) (by simp) ?_
    refine LateReady.cons rfl (fun K hK => ?_) LateReady.nil
    go_simp
    refine hK.out _ _ (fun _ => trivial) ?_
    clear hK K
    refine LateAny.take (i := 11) (v := .agg #[.slice (some ⟨w1.heap.size + 1, 0, none⟩) 0 4096, .bool false, .func (.func 52) #[.pointer (some ⟨c, 0, none⟩)] #[], .func (.func 50) #[.pointer (some ⟨c, 11, none⟩)] #[], .bool false]) rfl (by kernel_rfl) (by kernel_rfl) (by kernel_rfl) (by kernel_rfl) (fun _ _ _ h => h) (Or.inl ⟨by rfl, fun w' _h => by go_simp⟩) trivial ?_
    refine LateAny.take (i := 18) (v := .agg (#[.func (.func 38) #[] #[.pointer (some ⟨O, 0, none⟩)], .string (S pkg), .int .i64 0, .string ⟨#[]⟩, .slice none 0 0, .string ⟨#[]⟩, .slice (some ⟨w1.heap.size + 1, 0, none⟩) 0 4096, .bool false, .func (.func 52) #[.pointer (some ⟨c, 0, none⟩)] #[], .func (.func 50) #[.pointer (some ⟨c, 11, none⟩)] #[], .bool false, .slice (some ⟨w1.heap.size, 0, none⟩) 0 1024, .bool false, .func (.func 53) #[.pointer (some ⟨c, 0, none⟩)] #[], .func (.func 53) #[.pointer (some ⟨c, 0, none⟩)] #[], .bool false, .bool false, .bool false, .bool false, .bool false, .string ⟨#[]⟩])) rfl (by kernel_rfl) (by kernel_rfl) (by kernel_rfl) (by kernel_rfl) (fun _ _ _ h => h) (Or.inl ⟨by rfl, fun w' _h => by go_simp⟩) trivial ?_
    refine LateAny.take (i := 19) (v := .pointer (some ⟨c, 0, none⟩)) rfl (by kernel_rfl) (by kernel_rfl) (by kernel_rfl) (by kernel_rfl) (fun _ _ _ h => h) (Or.inl ⟨by rfl, fun w' _h => by go_simp⟩) trivial ?_
    refine LateAny.ready (rs := [20]) (by kernel_rfl) (by simp) ?_
    refine LateReady.cons rfl (fun K hK => ?_) LateReady.nil
    have hV : Below w1.heap.size w1 ((w1.alloc (.cells raw2 5)).alloc (.cells raw1 5)).drew := (((Below.refl _ w1).alloc (Nat.le_refl _) _).alloc (by simp) _).drew
    have HR := Lib.hid (new_rest (V := ((w1.alloc (.cells raw2 5)).alloc (.cells raw1 5)).drew) (B1 := w1.heap.size + 1) (B2 := w1.heap.size) (pkg := pkg) (raw1 := raw1) (raw2 := raw2) HH.out.1 HH.out.2.1 HH.out.2.2.1 HB1.out HH.out.2.2.2.1 HH.out.2.2.2.2.1 HH.out.2.2.2.2.2 hV (by show ((w1.alloc _).alloc _).heap[_]? = _; have := heap_alloc_new (w1.alloc (.cells raw2 5)) (.cells raw1 5); rw [show (w1.alloc (.cells raw2 5)).heap.size = w1.heap.size + 1 by simp] at this; exact this) hz1 (by show ((w1.alloc _).alloc _).heap[_]? = _; rw [Below.heap_alloc _ _ _ (by simp)]; exact heap_alloc_new _ _) hz2 (by omega) (by omega) (by omega))
    have hVc := (hV.block c (lt_of_block HB1.out)).trans HB1.out
    refine wp_store_row 89 (.tmp 28) (.tmp 27) rfl c (newCells c O pkg (w1.heap.size + 1) (w1.heap.size)) rfl rfl 89 zeroConv hVc info89 rfl (newCells_one ..) ?_
    clear hV hVc
    refine hK.out _ _ (fun _ => trivial) ?_
    clear hK K
    refine LateAny.done (by kernel_rfl) ?_ _
    obtain ⟨V, hVV⟩ : ∃ V, V = (((w1.alloc (.cells raw2 5)).alloc (.cells raw1 5)).drew).setRow c (newCells c O pkg (w1.heap.size + 1) (w1.heap.size)) := ⟨_, rfl⟩
    rw [← hVV] at HR
    rw [← hVV]
    clear hVV
    go_wp2_with fail
    refine HR.out.mono ?_
    rintro en w2 ⟨rfl, hS⟩
    have HS := Lib.hid hS
    clear hS HR
    dsimp only
    go_wp2_with fail
    go_ret
    exact ⟨⟨c, O, w0, pkg⟩, w1.heap.size + 1, w1.heap.size, rfl, rfl, rfl, rfl, HS.out⟩

end Go.Proofs.YtdljobmhnnegiaaDoor

/- impl.Convert (function 23). -/
namespace Go.Proofs.YtdljobmhnnegiaaDoor
open Go.RowKit

/-- What Convert leaves: the events, nine cells each, and the bytes of their outputs. -/
def CvPost (w : World) (pkg : List UInt8) (evs : List Ev) (e : Ending) (w' : World) : Prop :=
  ∃ v xs kp, e = .returned v ∧ Below w.heap.size w w' ∧ w'.ownsRow 0 41 9 v evs.length xs ∧ EvRow kp pkg evs xs ∧ (∀ p ∈ kp, w.heap.size ≤ p.1 ∧ w'.heap[p.1]? = some p.2) ∧ ∀ k, v.ownBlock = some k → w.heap.size ≤ k

section
variable {cf : Cf} {B1 B2 : Nat}
theorem St.tdrop {tp : List (Nat × Obj)} {p : Nat × Obj} {x : CI} {w : World} (h : St cf B1 B2 (p :: tp) x w) : St cf B1 B2 tp x w := ⟨Core.tdrop (b := p.1) (o := p.2) h.1, h.2.1, h.2.2⟩
theorem St.below {tp : List (Nat × Obj)} {x : CI} {w w' : World} (h : St cf B1 B2 tp x w) (hb : Below w.heap.size w w') : St cf B1 B2 tp x w' := by
  have hC := h.1.below hb
  have hc := (Same615.block (hb.block _ h.1.lt0.2)).i
  have hB : w'.heap[B1]? = w.heap[B1]? := hb.block B1 (h.1.xlt (by simp)).2.1
  exact ⟨hC, ⟨h.2.1.1.below hb, h.2.1.2⟩, lbs_in (k := 0) h.2.2.1 hC hc hB (by omega), h.2.2.2⟩
/-- A clone of a piece, to be read. -/
theorem St.clone {x : CI} {w w' : World} (h : St cf B1 B2 [] x w) {g : Nat} {blk : Obj} (hb : Below w.heap.size w w') (hg1 : w.heap.size ≤ g) (hg : w'.heap[g]? = some blk) : St cf B1 B2 [(g, blk)] x w' := by
  have h' := h.below hb
  have hC := h.1.fresh hb hg1 (lt_of_block hg)
  exact ⟨hC.take hg, h'.2⟩
theorem St.post {x : CI} {w : World} (h : St cf B1 B2 [] x w) : ∃ v xs kp, w.cell? ⟨cf.O, 0, none⟩ = some v ∧ Below cf.w0.heap.size cf.w0 w ∧ w.ownsRow 0 41 9 v x.2.evs.length xs ∧ EvRow kp cf.pkg x.2.evs xs ∧ (∀ p ∈ kp, cf.w0.heap.size ≤ p.1 ∧ w.heap[p.1]? = some p.2) ∧ ∀ k, v.ownBlock = some k → cf.w0.heap.size ≤ k := by
  obtain ⟨ρ, rv, gs, ev, xs, kp, r⟩ := h.1.rows
  exact ⟨ev, xs, kp, by simp only [World.cell?, r.ocell]; rfl, h.1.bel, r.orow, r.oev, fun p hp => ⟨(r.lim _ (by rw [r.r7 p hp]; omega)).1, r.kpb p hp⟩, fun k hk => (r.lim _ (by rw [r.r3 k hk]; omega)).1⟩
end

theorem Psi_fold : ∀ (ps : List (List UInt8)) (x : CI), Psi (ps.foldl inW x) ≤ Psi x + 9 * ps.flatten.length
  | [], x => by simp
  | p :: ps, x => by
    have h1 := Psi_inW x p
    have h2 := Psi_fold ps (inW x p)
    simp only [List.foldl_cons, List.flatten_cons, List.length_append]
    omega
theorem take_flat (ps : List (List UInt8)) (i : Nat) : (ps.take i).flatten.length ≤ ps.flatten.length := by
  have : (ps.take i).flatten.length + (ps.drop i).flatten.length = ps.flatten.length := by
    rw [← List.length_append, ← List.flatten_append, List.take_append_drop]
  omega
theorem flat_bound (ps : List (List UInt8)) {i : Nat} (h : i < ps.length) : (ps.take i).flatten.length + (ps[i]).length ≤ ps.flatten.length := by
  have h1 := take_flat ps (i + 1)
  rw [List.take_add_one, List.getElem?_eq_getElem h, List.flatten_append, List.length_append] at h1
  simpa using h1
theorem take_succ_fold (ps : List (List UInt8)) (x : CI) {i : Nat} (h : i < ps.length) : (ps.take (i + 1)).foldl inW x = inW ((ps.take i).foldl inW x) ps[i] := by
  rw [List.take_add_one, List.getElem?_eq_getElem h, List.foldl_append]
  rfl
theorem Psi_start : Psi startF ≤ 10 := by decide

set_option maxRecDepth 100000 in
set_option maxHeartbeats 4000000 in
theorem convert_any {w : World} (hg : G5 w) {v : Value} {ps : List (List UInt8)} (hps : PC w v ps) (pkg f : List UInt8) (exit : Int) (close : Bool) (hM : ps.flatten.length ≤ 500000) (hn : ps.length ≤ 1000000) :
    Calls Tryd.prog 23 #[v, .string (S pkg), .int .i64 exit, .string (S f), .bool close] w (CvPost w pkg (convF ps exit f close)) := by
  obtain ⟨p, cap, rfl, hcap, hel⟩ := hps
  obtain ⟨n, hnn⟩ : ∃ n, n = ps.length := ⟨_, rfl⟩
  have HN := Lib.hid hnn
  have HEL := Lib.hid hel
  have HM := Lib.hid hM
  have HG := Lib.hid hg
  rw [← hnn] at hcap hn ⊢
  have hmf : ∀ (fn : Fn) (first cap : Array Value) (w : World), (Instr.makeFunc fn first cap).run Tryd.prog w = .ok (.func fn first cap) w := fun _ _ _ _ => rfl
  have HNEW := Lib.hid (new_conv (w0 := w) (w := w.alloc (.cells #[.slice none 0 0] 38)) (O := w.heap.size) (pkg := pkg) ((Below.refl _ w).alloc (Nat.le_refl _) _) hg (heap_alloc_new _ _) (Nat.le_refl _))
  clear hnn hel hM hg
  go_enter Tryd.func23, Tryd.ntmps23
  go_wp2_with fail
  refine HNEW.out.mono ?_
  rintro en w1 ⟨cf, B1, B2, hw0, hO, hpk, rfl, hst⟩
  have H1 := Lib.hid (And.intro hw0 (And.intro hO (And.intro hpk hst)))
  rw [← hO]
  clear hw0 hpk hst HNEW
  dsimp only
  go_wp2_with fail
  go_loopw [20] (fun v20 wr => ∃ i : Nat, v20 = .int .i64 i ∧ i ≤ n ∧ Hid (St cf B1 B2 [] ((ps.take i).foldl inW startF) wr)) (fun v20 _ => n - (intOf v20).toNat)
  case atStart => exact ⟨0, rfl, Nat.zero_le _, H1.out.2.2.2⟩
  case round =>
    obtain ⟨i, rfl, hi, HS⟩ := hrel
    by_cases hlt : i < n
    · have hil : i < ps.length := by have := HN.out; omega
      obtain ⟨g, off, g1, o1, c1, rfl, a1, a2, a3⟩ := HEL.out i hil
      have hbel : Below w.heap.size w wr := by have := HS.out.1.bel; rw [H1.out.1] at this; exact this
      have hlen : (ps[i]).length ≤ 500000 := by
        have h1 := flat_bound ps hil
        have := HM.out
        omega
      have hgl : g < w.heap.size := World.block_lt_of_cell? w _ a1
      have c1' : wr.cell? ⟨g, off + i, none⟩ = some (.slice (some ⟨g1, o1, none⟩) (ps[i]).length c1) := (hbel.cell (p := ⟨g, off + i, none⟩) hgl).trans a1
      have hrd : Rd wr g1 o1 ps[i] := a3.grow hbel
      have HCL := Lib.hid (clone_any hrd (ps[i]).length c1 rfl (by omega))
      have HF : Hid ((ps.take (i + 1)).foldl inW startF = inW ((ps.take i).foldl inW startF) ps[i]) := take_succ_fold ps startF hil
      have HPS : Hid (Psi ((ps.take i).foldl inW startF) + 9 * (ps[i]).length ≤ 8000000) := by
        have h1 := Psi_fold (ps.take i) startF
        have h2 := flat_bound ps hil
        have h3 := HM.out
        have h4 := Psi_start
        show _ ≤ _
        omega
      obtain ⟨pi, hpi⟩ : ∃ pi, pi = ps[i] := ⟨_, rfl⟩
      rw [← hpi] at c1' HCL HF HPS
      have b0 : (0 : Int) ≤ (i : Int) := by omega
      have b1 : (i : Int) < (n : Int) := by omega
      clear a1 a2 a3 hbel hlen hgl hrd hpi hil
      go_wp2_with fail
      refine HCL.out.mono ?_
      rintro en w2 ⟨vc, rfl, gc, cc, cs, rfl, e1, e2, e3, e4, e5⟩
      have hst := HS.out.clone e5 e2 e3
      have hsrc : Src [(gc, .cells cs 5 (0, 0))] gc 0 pi := fun w' hw => Rd.of_block (hw _ (List.mem_cons_self ..)) e4
      have HW := Lib.hid (write_conv hst hsrc pi.length cc rfl e1 HPS.out)
      clear e1 e2 e3 e4 e5 hst hsrc
      dsimp only
      go_wp2_with fail
      refine HW.out.mono ?_
      rintro en w3 ⟨rfl, hS3⟩
      have HS3 := Lib.hid hS3.tdrop
      clear hS3
      dsimp only
      go_wp2_with fail
      go_roundw
      case rel =>
        exact ⟨i + 1, by go_num, by omega, by rw [HF.out]; exact HS3.out⟩
      case measure => simp [intOf]; omega
    · have HE : Hid (ps.take i = ps) := List.take_of_length_le (by have := HN.out; omega)
      have b1 : ¬ (i : Int) < (n : Int) := by omega
      obtain ⟨x0, hx0⟩ : ∃ x0, x0 = ps.foldl inW startF := ⟨_, rfl⟩
      have hS := HS.out
      rw [HE.out, ← hx0] at hS
      have HX := Lib.hid hS
      have HPS : Hid (Psi x0 ≤ 5000000) := by
        have h1 := Psi_fold ps startF
        have h3 := HM.out
        have h4 := Psi_start
        rw [hx0]
        show _ ≤ _
        omega
      obtain ⟨R, hR⟩ : ∃ R, R = convF ps exit f close := ⟨_, rfl⟩
      have HCV : Hid (R = (if close = true then closeF (failF (exitF x0 exit) f) else failF (exitF x0 exit) f).2.evs) := by
        show _ = _
        rw [hR, hx0]
        rfl
      have HRR := Lib.hid hR
      have HEND : Hid (∀ (y : CI) (wz : World), St cf B1 B2 [] y wz → R = y.2.evs → ∃ vv, wz.cell? ⟨w.heap.size, 0, none⟩ = some vv ∧ CvPost w pkg R (.returned vv) wz) := fun y wz h hh => by
        obtain ⟨vv, xs, kp, q1, q2, q3, q4, q5, q6⟩ := h.post
        rw [H1.out.1] at q2 q5 q6
        rw [H1.out.2.2.1] at q4
        rw [H1.out.2.1] at q1
        rw [hh]
        exact ⟨vv, q1, vv, xs, kp, rfl, q2, q3, q4, q5, q6⟩
      clear hS hx0 hR HS HE HEL HN HM
      obtain ⟨aF, haF⟩ : ∃ b, b = decide (f = []) := ⟨_, rfl⟩
      have tF : ((S f).data.toList == []) = aF := by rw [haF]; exact S_beq_dec _ []
      have HAF := Lib.hid haF
      clear haF
      by_cases e1 : exit = 1
      · subst e1
        have HEX := Lib.hid (exited_ok HX.out)
        have HPE : Hid (Psi (exitF x0 1) ≤ 5000000) := by have := HPS.out; unfold exitF Psi at *; show _ ≤ _; split <;> (try split) <;> exact this
        go_wp2_with fail
        refine HEX.out.mono ?_
        rintro en w4 ⟨rfl, hS4⟩
        have HST := Lib.hid hS4
        clear hS4
        dsimp only
        cases aF with
        | true =>
          have HFF : Hid (failF (exitF x0 1) f = exitF x0 1) := by show _ = _; unfold failF; rw [if_pos (of_decide_eq_true HAF.out.symm)]
          cases close with
          | true =>
            have HCV2 : Hid (R = (closeF (exitF x0 1)).2.evs) := by show _ = _; rw [HCV.out, if_pos rfl, HFF.out]
            have HCL := Lib.hid (close_any HST.out (by have := HPE.out; unfold Psi Phi pe at this ⊢; exact Nat.le_trans this (by omega)))
            go_wp2_with fail
            refine HCL.out.mono ?_
            rintro en wc ⟨rfl, hSc⟩
            have HST3 := Lib.hid hSc
            clear hSc
            dsimp only
            obtain ⟨vv, hv1, hv2⟩ := HEND.out _ _ HST3.out HCV2.out
            have HV := Lib.hid hv2
            clear hv2
            go_wp2_with fail
            go_ret
            have hz := HV.out
            rw [HRR.out] at hz
            exact hz
          | false =>
            have HCV2 : Hid (R = (exitF x0 1).2.evs) := by show _ = _; rw [HCV.out, if_neg (by simp), HFF.out]
            obtain ⟨vv, hv1, hv2⟩ := HEND.out _ _ HST.out HCV2.out
            have HV := Lib.hid hv2
            clear hv2
            go_wp2_with fail
            go_ret
            have hz := HV.out
            rw [HRR.out] at hz
            exact hz
        | false =>
          have HFF : Hid (failF (exitF x0 1) f = ((exitF x0 1).1, { (exitF x0 1).2 with fb := f })) := by show _ = _; unfold failF; rw [if_neg (of_decide_eq_false HAF.out.symm)]
          have HFA := Lib.hid (failed_any HST.out f)
          cases close with
          | true =>
            have HCV2 : Hid (R = (closeF (((exitF x0 1).1, { (exitF x0 1).2 with fb := f }))).2.evs) := by show _ = _; rw [HCV.out, if_pos rfl, HFF.out]
            go_wp2_with fail
            refine HFA.out.mono ?_
            rintro en wf ⟨rfl, hSf⟩
            have HST2 := Lib.hid hSf
            clear hSf
            dsimp only
            have HCL := Lib.hid (close_any HST2.out (by have := HPE.out; unfold Psi Phi pe at this ⊢; exact Nat.le_trans this (by omega)))
            go_wp2_with fail
            refine HCL.out.mono ?_
            rintro en wc ⟨rfl, hSc⟩
            have HST3 := Lib.hid hSc
            clear hSc
            dsimp only
            obtain ⟨vv, hv1, hv2⟩ := HEND.out _ _ HST3.out HCV2.out
            have HV := Lib.hid hv2
            clear hv2
            go_wp2_with fail
            go_ret
            have hz := HV.out
            rw [HRR.out] at hz
            exact hz
          | false =>
            have HCV2 : Hid (R = (((exitF x0 1).1, { (exitF x0 1).2 with fb := f })).2.evs) := by show _ = _; rw [HCV.out, if_neg (by simp), HFF.out]
            go_wp2_with fail
            refine HFA.out.mono ?_
            rintro en wf ⟨rfl, hSf⟩
            have HST2 := Lib.hid hSf
            clear hSf
            dsimp only
            obtain ⟨vv, hv1, hv2⟩ := HEND.out _ _ HST2.out HCV2.out
            have HV := Lib.hid hv2
            clear hv2
            go_wp2_with fail
            go_ret
            have hz := HV.out
            rw [HRR.out] at hz
            exact hz
      · by_cases e2 : exit = 2
        · subst e2
          have HNE := Lib.hid (new_err wr)
          have HPE : Hid (Psi (exitF x0 2) ≤ 5000000) := HPS.out
          go_wp2_with fail
          refine HNE.out.mono ?_
          rintro en w4 ⟨rfl, hb4⟩
          have HEX := Lib.hid (exited_err (HX.out.below hb4) wr.heap.size)
          clear hb4
          dsimp only
          go_wp2_with fail
          refine HEX.out.mono ?_
          rintro en w5 ⟨rfl, hS5⟩
          have HST := Lib.hid hS5
          clear hS5
          dsimp only
          cases aF with
          | true =>
            have HFF : Hid (failF (exitF x0 2) f = exitF x0 2) := by show _ = _; unfold failF; rw [if_pos (of_decide_eq_true HAF.out.symm)]
            cases close with
            | true =>
              have HCV2 : Hid (R = (closeF (exitF x0 2)).2.evs) := by show _ = _; rw [HCV.out, if_pos rfl, HFF.out]
              have HCL := Lib.hid (close_any HST.out (by have := HPE.out; unfold Psi Phi pe at this ⊢; exact Nat.le_trans this (by omega)))
              go_wp2_with fail
              refine HCL.out.mono ?_
              rintro en wc ⟨rfl, hSc⟩
              have HST3 := Lib.hid hSc
              clear hSc
              dsimp only
              obtain ⟨vv, hv1, hv2⟩ := HEND.out _ _ HST3.out HCV2.out
              have HV := Lib.hid hv2
              clear hv2
              go_wp2_with fail
              go_ret
              have hz := HV.out
              rw [HRR.out] at hz
              exact hz
            | false =>
              have HCV2 : Hid (R = (exitF x0 2).2.evs) := by show _ = _; rw [HCV.out, if_neg (by simp), HFF.out]
              obtain ⟨vv, hv1, hv2⟩ := HEND.out _ _ HST.out HCV2.out
              have HV := Lib.hid hv2
              clear hv2
              go_wp2_with fail
              go_ret
              have hz := HV.out
              rw [HRR.out] at hz
              exact hz
          | false =>
            have HFF : Hid (failF (exitF x0 2) f = ((exitF x0 2).1, { (exitF x0 2).2 with fb := f })) := by show _ = _; unfold failF; rw [if_neg (of_decide_eq_false HAF.out.symm)]
            have HFA := Lib.hid (failed_any HST.out f)
            cases close with
            | true =>
              have HCV2 : Hid (R = (closeF (((exitF x0 2).1, { (exitF x0 2).2 with fb := f }))).2.evs) := by show _ = _; rw [HCV.out, if_pos rfl, HFF.out]
              go_wp2_with fail
              refine HFA.out.mono ?_
              rintro en wf ⟨rfl, hSf⟩
              have HST2 := Lib.hid hSf
              clear hSf
              dsimp only
              have HCL := Lib.hid (close_any HST2.out (by have := HPE.out; unfold Psi Phi pe at this ⊢; exact Nat.le_trans this (by omega)))
              go_wp2_with fail
              refine HCL.out.mono ?_
              rintro en wc ⟨rfl, hSc⟩
              have HST3 := Lib.hid hSc
              clear hSc
              dsimp only
              obtain ⟨vv, hv1, hv2⟩ := HEND.out _ _ HST3.out HCV2.out
              have HV := Lib.hid hv2
              clear hv2
              go_wp2_with fail
              go_ret
              have hz := HV.out
              rw [HRR.out] at hz
              exact hz
            | false =>
              have HCV2 : Hid (R = (((exitF x0 2).1, { (exitF x0 2).2 with fb := f })).2.evs) := by show _ = _; rw [HCV.out, if_neg (by simp), HFF.out]
              go_wp2_with fail
              refine HFA.out.mono ?_
              rintro en wf ⟨rfl, hSf⟩
              have HST2 := Lib.hid hSf
              clear hSf
              dsimp only
              obtain ⟨vv, hv1, hv2⟩ := HEND.out _ _ HST2.out HCV2.out
              have HV := Lib.hid hv2
              clear hv2
              go_wp2_with fail
              go_ret
              have hz := HV.out
              rw [HRR.out] at hz
              exact hz
        · have HEX : Hid (exitF x0 exit = x0) := by show _ = _; unfold exitF; rw [if_neg e1, if_neg e2]
          rw [HEX.out] at HCV
          have HST := HX
          have HPE : Hid (Psi x0 ≤ 5000000) := HPS.out
          cases aF with
          | true =>
            have HFF : Hid (failF (x0) f = x0) := by show _ = _; unfold failF; rw [if_pos (of_decide_eq_true HAF.out.symm)]
            cases close with
            | true =>
              have HCV2 : Hid (R = (closeF (x0)).2.evs) := by show _ = _; rw [HCV.out, if_pos rfl, HFF.out]
              have HCL := Lib.hid (close_any HST.out (by have := HPE.out; unfold Psi Phi pe at this ⊢; exact Nat.le_trans this (by omega)))
              go_wp2_with fail
              refine HCL.out.mono ?_
              rintro en wc ⟨rfl, hSc⟩
              have HST3 := Lib.hid hSc
              clear hSc
              dsimp only
              obtain ⟨vv, hv1, hv2⟩ := HEND.out _ _ HST3.out HCV2.out
              have HV := Lib.hid hv2
              clear hv2
              go_wp2_with fail
              go_ret
              have hz := HV.out
              rw [HRR.out] at hz
              exact hz
            | false =>
              have HCV2 : Hid (R = (x0).2.evs) := by show _ = _; rw [HCV.out, if_neg (by simp), HFF.out]
              obtain ⟨vv, hv1, hv2⟩ := HEND.out _ _ HST.out HCV2.out
              have HV := Lib.hid hv2
              clear hv2
              go_wp2_with fail
              go_ret
              have hz := HV.out
              rw [HRR.out] at hz
              exact hz
          | false =>
            have HFF : Hid (failF (x0) f = ((x0).1, { (x0).2 with fb := f })) := by show _ = _; unfold failF; rw [if_neg (of_decide_eq_false HAF.out.symm)]
            have HFA := Lib.hid (failed_any HST.out f)
            cases close with
            | true =>
              have HCV2 : Hid (R = (closeF (((x0).1, { (x0).2 with fb := f }))).2.evs) := by show _ = _; rw [HCV.out, if_pos rfl, HFF.out]
              go_wp2_with fail
              refine HFA.out.mono ?_
              rintro en wf ⟨rfl, hSf⟩
              have HST2 := Lib.hid hSf
              clear hSf
              dsimp only
              have HCL := Lib.hid (close_any HST2.out (by have := HPE.out; unfold Psi Phi pe at this ⊢; exact Nat.le_trans this (by omega)))
              go_wp2_with fail
              refine HCL.out.mono ?_
              rintro en wc ⟨rfl, hSc⟩
              have HST3 := Lib.hid hSc
              clear hSc
              dsimp only
              obtain ⟨vv, hv1, hv2⟩ := HEND.out _ _ HST3.out HCV2.out
              have HV := Lib.hid hv2
              clear hv2
              go_wp2_with fail
              go_ret
              have hz := HV.out
              rw [HRR.out] at hz
              exact hz
            | false =>
              have HCV2 : Hid (R = (((x0).1, { (x0).2 with fb := f })).2.evs) := by show _ = _; rw [HCV.out, if_neg (by simp), HFF.out]
              go_wp2_with fail
              refine HFA.out.mono ?_
              rintro en wf ⟨rfl, hSf⟩
              have HST2 := Lib.hid hSf
              clear hSf
              dsimp only
              obtain ⟨vv, hv1, hv2⟩ := HEND.out _ _ HST2.out HCV2.out
              have HV := Lib.hid hv2
              clear hv2
              go_wp2_with fail
              go_ret
              have hz := HV.out
              rw [HRR.out] at hz
              exact hz

end Go.Proofs.YtdljobmhnnegiaaDoor

/- The events that Convert returned, read cell by cell. -/
namespace Go.Proofs.YtdljobmhnnegiaaDoor
open Go.RowKit

theorem EvRow.at {kp : List (Nat × Obj)} {pkg : List UInt8} : ∀ {es : List Ev} {xs : List Value}, EvRow kp pkg es xs → ∀ i, (h : i < es.length) → ∃ ov, OutR kp (es[i]).output ov ∧ ∀ j, j < 9 → xs[9 * i + j]? = (evCells es[i] pkg ov)[j]?
  | [], _, _, i, h => by simp at h
  | e :: es, xs, ⟨ov, r, h1, h2, h3⟩, 0, _ => ⟨ov, h2, fun j hj => by
      rw [h1, Nat.mul_zero, Nat.zero_add]
      exact List.getElem?_append_left (by show j < 9; exact hj)⟩
  | e :: es, xs, ⟨ov, r, h1, h2, h3⟩, i + 1, h => by
    obtain ⟨ov', a1, a2⟩ := EvRow.at h3 i (by simpa using h)
    refine ⟨ov', a1, fun j hj => ?_⟩
    rw [h1, List.getElem?_append_right (by show 9 ≤ _; omega)]
    rw [show 9 * (i + 1) + j - (evCells e pkg ov).length = 9 * i + j by show _ - 9 = _; omega]
    exact a2 j hj

/-- Events in memory, in a world behind the one where they were made. -/
def EvsAt (w : World) (pkg : List UInt8) (evs : List Ev) (v : Value) : Prop :=
  ∃ xs kp, w.ownsRow 0 41 9 v evs.length xs ∧ EvRow kp pkg evs xs ∧ ∀ p ∈ kp, w.heap[p.1]? = some p.2
theorem CvPost.evs {w w' : World} {pkg : List UInt8} {evs : List Ev} {e : Ending} (h : CvPost w pkg evs e w') : ∃ v, e = .returned v ∧ Below w.heap.size w w' ∧ EvsAt w' pkg evs v := by
  obtain ⟨v, xs, kp, h1, h2, h3, h4, h5, h6⟩ := h
  exact ⟨v, h1, h2, xs, kp, h3, h4, fun p hp => (h5 p hp).2⟩
theorem EvsAt.form {w : World} {pkg : List UInt8} {evs : List Ev} {v : Value} (h : EvsAt w pkg evs v) : ∃ p c, v = .slice p evs.length c ∧ (evs ≠ [] → ∃ g, p = some ⟨g, 0, none⟩ ∧ evs.length ≤ c) := by
  obtain ⟨xs, kp, h1, _, _⟩ := h
  rcases h1.2 with ⟨h2, h3⟩ | ⟨g, cap, cur, h2, _, _, h3, _⟩
  · exact ⟨none, 0, by rw [h2, h3], fun hne => absurd (List.length_eq_zero_iff.1 h3) hne⟩
  · exact ⟨_, cap, h2, fun _ => ⟨g, rfl, h3⟩⟩
theorem EvsAt.below {w w' : World} {pkg : List UInt8} {evs : List Ev} {v : Value} (h : EvsAt w pkg evs v) (hb : Below w.heap.size w w') : EvsAt w' pkg evs v := by
  obtain ⟨xs, kp, h1, h2, h3⟩ := h
  refine ⟨xs, kp, ownsRow_same h1 fun k hk => ?_, h2, fun p hp => (hb.block _ (lt_of_block (h3 p hp))).trans (h3 p hp)⟩
  rcases h1.2 with ⟨h4, _⟩ | ⟨g, cap, cur, h4, _, h5, _⟩
  · rw [h4] at hk; cases hk
  · rw [h4] at hk
    cases hk
    exact hb.block _ (lt_of_block h5)
/-- The cells of an event. -/
theorem EvsAt.cell {w : World} {pkg : List UInt8} {evs : List Ev} {g c : Nat} (h : EvsAt w pkg evs (.slice (some ⟨g, 0, none⟩) evs.length c)) (i : Nat) (hi : i < evs.length) :
    ∃ ov, (∀ j, j < 9 → w.cell? ⟨g, 9 * i + j, none⟩ = (evCells evs[i] pkg ov)[j]?) ∧
      ((ov = .slice none 0 0 ∧ (evs[i]).output = []) ∨ ∃ g' c', ov = .slice (some ⟨g', 0, none⟩) (evs[i]).output.length c' ∧ (evs[i]).output.length ≤ c' ∧ Rd w g' 0 (evs[i]).output) := by
  obtain ⟨xs, kp, h1, h2, h3⟩ := h
  obtain ⟨ov, ho, hc⟩ := h2.at i hi
  refine ⟨ov, fun j hj => ?_, ?_⟩
  · rcases h1.2 with ⟨h4, _⟩ | ⟨g', cap, cur, h4, _, h5, _, _, _, h6⟩
    · cases h4
    · cases h4
      simp only [World.cell?, h5]
      rw [← hc j hj, ← h6, List.getElem?_take_of_lt (show 9 * i + j < evs.length * 9 by omega)]
      simp
  · rcases ho with h4 | ⟨g', cap, cur, h4, h5, h6, h7⟩
    · exact .inl h4
    · exact .inr ⟨g', cap, h4, h5, Rd.of_block (h3 _ h6) h7⟩

end Go.Proofs.YtdljobmhnnegiaaDoor

/- laws.works (function 22). -/
namespace Go.Proofs.YtdljobmhnnegiaaDoor
open Go.RowKit

theorem startF_evs : startF.2.evs = [Ev.of tstart []] := rfl
/-- The stream begins with a start. -/
theorem convF_head (ps : List (List UInt8)) (exit : Int) (f : List UInt8) (c : Bool) : ∃ r, convF ps exit f c = Ev.of tstart [] :: r := by
  obtain ⟨r, hr⟩ := convF_start ps exit f c
  rw [startF_evs] at hr
  exact ⟨r, by rw [← hr]; rfl⟩
/-- A closed stream ends with the result of the package. -/
theorem convF_last (ps : List (List UInt8)) (exit : Int) (f : List UInt8) (h : exit = 1 ∨ exit = 2) : ∃ s, startF.2.evs <+: s ∧ ∃ nm fb, convF ps exit f true = s ++ [{ Ev.of (exitF (ps.foldl inW startF) exit).2.result nm with fb := fb }] := by
  have hr := exitF_result (ps.foldl inW startF) exit h
  have hne : (failF (exitF (ps.foldl inW startF) exit) f).2.result ≠ [] := by rw [failF_result]; exact hr.1
  obtain ⟨s, hk, he⟩ := closeF_last hne
  have h1 : startF.2.evs <+: (failF (exitF (ps.foldl inW startF) exit) f).2.evs := by rw [failF_evs, exitF_evs]; exact fold_evs ps startF
  rw [failF_result] at he
  exact ⟨s.evs, h1.trans hk.evs, s.name, _, by unfold convF; dsimp only; rw [if_pos rfl, he]⟩
theorem convF_two (ps : List (List UInt8)) (exit : Int) (f : List UInt8) (h : exit = 1 ∨ exit = 2) : 2 ≤ (convF ps exit f true).length := by
  obtain ⟨s, h1, nm, fb, h2⟩ := convF_last ps exit f h
  obtain ⟨r, hr⟩ := h1
  rw [h2, ← hr, startF_evs]
  simp

set_option maxRecDepth 100000 in
set_option maxHeartbeats 4000000 in
theorem works_any {w : World} (hg : G5 w) : Calls Tryd.prog 22 #[] w fun e w' => e = .returned (.bool true) ∧ Below w.heap.size w w' := by
  have kc := fun (w : World) (C : Array Value) (n c : Nat) => Lib.run_convert_bytes_const (P := Tryd.prog) w 23 5 C n c Tryd.underlying23 Tryd.underlying5
  have HG := Lib.hid hg
  have HX : Hid (∀ (C : Array Value) fr fr2, C.toList = vals [97, 10] → Calls Tryd.prog 23 #[.slice (some ⟨w.heap.size + 1, 0, none⟩) 1 1, .string ⟨#[112]⟩, .int .i64 1, .string ⟨#[]⟩, .bool true] ((w.alloc (.cells C 5 fr)).alloc (.cells #[.slice (some ⟨w.heap.size, 0, none⟩) 2 2] 23 fr2)) fun e w' =>
      ∃ g c b, e = .returned (.slice (some ⟨g, 0, none⟩) b c) ∧ 2 ≤ b ∧ b ≤ c ∧ w'.cell? ⟨g, 0, none⟩ = some (.string (S tstart)) ∧ Below w.heap.size w w') := by
    intro C fr fr2 hC
    have hb : Below w.heap.size w ((w.alloc (.cells C 5 fr)).alloc (.cells #[.slice (some ⟨w.heap.size, 0, none⟩) 2 2] 23 fr2)) := ((Below.refl _ w).alloc (Nat.le_refl _) _).alloc (by simp) _
    have hpc : PC ((w.alloc (.cells C 5 fr)).alloc (.cells #[.slice (some ⟨w.heap.size, 0, none⟩) 2 2] 23 fr2)) (.slice (some ⟨w.heap.size + 1, 0, none⟩) 1 1) [[97, 10]] := by
      refine ⟨_, 1, rfl, Nat.le_refl _, fun i hi => ?_⟩
      have hi0 : i = 0 := by simp at hi; omega
      subst hi0
      refine ⟨w.heap.size + 1, 0, w.heap.size, 0, 2, rfl, ?_, Nat.le_refl _, ?_⟩
      · have := heap_alloc_new (w.alloc (.cells C 5 fr)) (.cells #[.slice (some ⟨w.heap.size, 0, none⟩) 2 2] 23 fr2)
        rw [show (w.alloc (.cells C 5 fr)).heap.size = w.heap.size + 1 by simp] at this
        simp only [World.cell?, this]
        rfl
      · exact (rd_const w [97, 10] C fr hC).grow ((Below.refl _ _).alloc (Nat.le_refl _) _)
    refine (convert_any (HG.out.below hb) hpc [112] [] 1 true (by decide) (by decide)).mono ?_
    intro e w' hp
    obtain ⟨v, rfl, hb2, hev⟩ := hp.evs
    have h2 := convF_two [[97, 10]] 1 [] (.inl rfl)
    obtain ⟨r, hr⟩ := convF_head [[97, 10]] 1 [] true
    rw [hr] at hev h2
    obtain ⟨p, c, rfl, hf⟩ := hev.form
    obtain ⟨g, rfl, hc⟩ := hf (by simp)
    obtain ⟨ov, hcell, _⟩ := hev.cell 0 (by simp)
    exact ⟨g, c, _, rfl, h2, hc, hcell 0 (by omega), hb.trans (hb2.mono hb.size)⟩
  clear hg
  go_enter Tryd.func22, Tryd.ntmps22
  go_wp2_with fail
  refine (HX.out _ _ _ rfl).mono ?_
  rintro en w1 ⟨g, c, b, rfl, hb2, hbc, hc, hbel⟩
  have HB := Lib.hid hbel
  have b0 : (1 : Int) < (b : Int) := by omega
  have b1 : (0 : Int) < (b : Int) := by omega
  have t1 : ((S tstart).data.toList == [115, 116, 97, 114, 116]) = true := by decide
  clear hbel HX
  dsimp only
  go_wp2_with fail
  go_ret
  exact ⟨rfl, HB.out⟩

end Go.Proofs.YtdljobmhnnegiaaDoor
