/- The walk of FnStory (function 12). -/
import Derived.Test.YtdljobmhnnegiaaDoorZ6
namespace Go.Proofs.YtdljobmhnnegiaaDoor
open Go.RowKit

/-- Events of the reference as they lie in memory. -/
structure SpecE (w : World) (g i : Nat) (e : Ev) : Prop where
  c0 : w.cell? ⟨g, i * 4, none⟩ = some (.string (S e.action))
  c1 : w.cell? ⟨g, i * 4 + 1, none⟩ = some (.string (S e.test))
  c2 : w.cell? ⟨g, i * 4 + 2, none⟩ = some (.string (S e.output))
  c3 : w.cell? ⟨g, i * 4 + 3, none⟩ = some (.string (S e.otype))
def SEvs (w : World) (v : Value) (es : List Ev) : Prop := ∃ p cap, v = .slice p es.length cap ∧ es.length ≤ cap ∧ ∀ i, (h : i < es.length) → ∃ g, p = some ⟨g, 0, none⟩ ∧ SpecE w g i es[i]
theorem SEvs.below {w w' : World} {v : Value} {es : List Ev} (h : SEvs w v es) (hb : Below w.heap.size w w') : SEvs w' v es := by
  obtain ⟨p, cap, rfl, hc, hel⟩ := h
  refine ⟨p, cap, rfl, hc, fun i hi => ?_⟩
  obtain ⟨g, hp, h0, h1, h2, h3⟩ := hel i hi
  exact ⟨g, hp, cellB hb h0, cellB hb h1, cellB hb h2, cellB hb h3⟩
theorem rowE_get : ∀ (es : List Ev) (i j : Nat), (h : i < es.length) → j < 4 → (rowE es)[i * 4 + j]? = (sCells es[i])[j]?
  | [], i, j, h, _ => by simp at h
  | e :: es, 0, j, _, hj => by
    unfold rowE
    rw [List.map_cons, List.flatten_cons, List.getElem?_append_left (by show 0 * 4 + j < 4; omega), Nat.zero_mul, Nat.zero_add]
    rfl
  | e :: es, i + 1, j, h, hj => by
    have ih := rowE_get es i j (by simpa using h) hj
    unfold rowE at ih ⊢
    have hl : (sCells e).length = 4 := rfl
    rw [List.map_cons, List.flatten_cons, List.getElem?_append_right (by rw [hl]; omega), hl, show (i + 1) * 4 + j - 4 = i * 4 + j by omega, ih]
    rfl
theorem ER.sev {H : Nat} {w : World} {v : Value} {es : List Ev} (h : ER H w v es) : SEvs w v es := by
  rcases h.2 with ⟨rfl, h0⟩ | ⟨g, cap, cur, rfl, hg, hh, hc, _, _, ht⟩
  · exact ⟨none, 0, by rw [h0], by omega, fun i hi => by omega⟩
  · refine ⟨_, cap, rfl, hc, fun i hi => ⟨g, rfl, ?_⟩⟩
    have hcur : ∀ j, j < 4 → w.cell? ⟨g, i * 4 + j, none⟩ = (sCells es[i])[j]? := fun j hj => by
      rw [← rowE_get es i j hi hj]
      simp only [World.cell?, hh]
      rw [← ht, List.getElem?_take, if_pos (show i * 4 + j < es.length * 4 by omega)]; simp
    exact ⟨hcur 0 (by omega), hcur 1 (by omega), hcur 2 (by omega), hcur 3 (by omega)⟩

theorem late_calls {W w w' : World} (hG : G5 W) (h1 : Below W.heap.size W w) {v : Value} {ps : List (List UInt8)} (hpc : PC w v ps) (hb : Below w.heap.size w w') (ht : ps.flatten.length ≤ 500000) (hn : ps.length ≤ 1000000) (exit : Int) (f : List UInt8) (close : Bool) :
    Calls Tryd.prog 23 #[v, .string ⟨#[112]⟩, .int .i64 exit, .string (S f), .bool close] w' fun e w2 => ∃ evs v', e = .returned v' ∧ evs = convF ps exit f close ∧ EvsAt w2 [112] evs v' ∧ Below w'.heap.size w' w2 := by
  have h2 : Below W.heap.size W w' := h1.trans (hb.mono h1.size)
  refine (convert_any (hG.below h2) (hpc.below hb) [112] f exit close ht hn).mono ?_
  intro e w2 hp
  obtain ⟨v', rfl, hb2, hev⟩ := hp.evs
  exact ⟨_, v', rfl, rfl, hev, hb2⟩

set_option maxRecDepth 100000 in
set_option maxHeartbeats 16000000 in
theorem walk_story (nv : Value) (ns : List (List UInt8)) (kv : Value) (ks : List Int) (lv : Value) (lss : List (List (List UInt8))) (zv : Value) (zs : List Int) (W : World) (hn : SC W nv ns) (hk : IC W kv ks) (hl : SSC W lv lss) (hz : IC W zv zs) (hG : G5 W) :
    Calls Tryd.prog 12 #[nv, kv, lv, zv] W fun e W' => e = .returned (.bool true) ∧ Below W.heap.size W W' := by
  have HG := Lib.hid hG
  have HW : Hid (∀ w', Below W.heap.size W w' → Calls Tryd.prog 22 #[] w' fun e w'' => e = .returned (.bool true) ∧ Below w'.heap.size w' w'') := fun w' hb => works_any (HG.out.below hb)
  have HF1 : Hid (Calls Tryd.prog 27 #[nv] W (FitPost (Fit1 ns) W)) := fits1_any nv ns W hn
  have HF2 : Hid (Calls Tryd.prog 32 #[lv] W (FitPost (Fit2 lss) W)) := fits2_any lv lss W hl
  have HT : Hid (Fit1 ns → ks.length ≤ 2147483647 → Fit2 lss → Calls Tryd.prog 28 #[nv, kv, lv] W (TestsPost W)) := fun h1 h2 h3 => tests_call hn hk hl h1 h2 h3
  have HPC : Hid (∀ w' (s : ByteArray), Below W.heap.size W w' → s.size ≤ 1000000 → zs.length ≤ 2147483647 → Calls Tryd.prog 20 #[.string s, zv] w' (PiecesPost w' s)) := fun w' s hb h1 h2 => pieces_any s h1 zv zs (hz.below hb) h2
  obtain ⟨pn, cn, rfl, hcn, _⟩ := hn
  obtain ⟨pk, ck, rfl, hck, _⟩ := hk
  obtain ⟨pl, cl, rfl, hcl, _⟩ := hl
  obtain ⟨pz, cz, rfl, hcz, _⟩ := hz
  obtain ⟨N, hN⟩ : ∃ N, N = ns.length := ⟨_, rfl⟩
  obtain ⟨K, hK⟩ : ∃ K, K = ks.length := ⟨_, rfl⟩
  obtain ⟨L, hL⟩ : ∃ L, L = lss.length := ⟨_, rfl⟩
  obtain ⟨Z, hZ⟩ : ∃ Z, Z = zs.length := ⟨_, rfl⟩
  rw [← hN] at hcn HF1 HT ⊢
  rw [← hK] at hck HT ⊢
  rw [← hL] at hcl HT HF2 ⊢
  rw [← hZ] at hcz HPC ⊢
  clear hG hN hK hL hZ
  go_enter Tryd.func12, Tryd.ntmps12
  go_wp2_with fail
  refine HF1.out.mono ?_
  rintro e w' ⟨b, rfl, hb, rfl⟩
  have HB1 := Lib.hid hb
  clear hb
  cases b with
  | false =>
    dsimp only
    go_wp2_with fail
    go_ret
    exact ⟨rfl, Below.refl _ _⟩
  | true =>
  by_cases hkb : (2147483647 : Int) < (K : Int)
  · dsimp only
    go_wp2_with fail
    go_ret
    exact ⟨rfl, Below.refl _ _⟩
  dsimp only
  go_wp2_with fail
  refine HF2.out.mono ?_
  rintro e w' ⟨b, rfl, hb, rfl⟩
  have HB2 := Lib.hid hb
  clear hb
  cases b with
  | false =>
    dsimp only
    go_wp2_with fail
    go_ret
    exact ⟨rfl, Below.refl _ _⟩
  | true =>
  by_cases hzb : (2147483647 : Int) < (Z : Int)
  · dsimp only
    go_wp2_with fail
    go_ret
    exact ⟨rfl, Below.refl _ _⟩
  have HT2 := Lib.hid (HT.out (HB1.out (by trivial)) (by omega) (HB2.out (by trivial)))
  dsimp only
  go_wp2_with fail
  refine HT2.out.mono ?_
  rintro e w1 ⟨v1, b, rfl, hb1, hts⟩
  have HW1 := Lib.hid (HW.out w1 hb1)
  cases b with
  | false =>
    clear hts
    have HBB := Lib.hid hb1
    clear hb1
    dsimp only
    go_wp2_with fail
    refine HW1.out.mono ?_
    rintro e w2 ⟨rfl, hb2⟩
    go_wp2_with fail
    go_ret
    exact ⟨rfl, HBB.out.trans (hb2.mono HBB.out.size)⟩
  | true =>
  obtain ⟨ts, htsc, hlen, hpt⟩ := hts rfl
  have HTS := Lib.hid htsc
  have HPT := Lib.hid hpt
  have HBB := Lib.hid hb1
  clear hts htsc hpt hb1
  dsimp only
  go_wp2_with fail
  refine (story_any v1 ts w1 HTS.out hlen HPT.out).mono ?_
  rintro e w3 ⟨v3, rfl, htl, hb3, hst⟩
  obtain ⟨sx, hsx⟩ : ∃ sx, sx = S (storyL ts).flatten := ⟨_, rfl⟩
  have hsz : sx.size ≤ 70000 := by rw [hsx, S_size]; exact htl
  have HB3 : Hid (Below W.heap.size W w3) := HBB.out.trans (hb3.mono HBB.out.size)
  have HTS3 : Hid (TSC w3 v1 ts) := HTS.out.below hb3
  have HSX : Hid (sx.data.toList = (storyL ts).flatten) := by show _ = _; rw [hsx]
  have HSE : Hid (SEvs w3 v3 (storyE ts)) := hst.sev
  rw [← hsx]
  have hp := HPC.out w3 sx HB3.out (by omega) (by omega)
  have HP3 := Lib.hid hp
  clear hb3 htl hsx hst hp
  have HFD : Hid (∀ w', Below w3.heap.size w3 w' → Calls Tryd.prog 29 #[v1] w' fun e w'' => e = .returned (.bool (ts.any fun t => t.kind == 1)) ∧ Below w'.heap.size w' w'') := fun w' hb => specFailed_any v1 ts w' (HTS3.out.below hb) hlen
  obtain ⟨fb, hfb⟩ : ∃ fb, fb = ts.any fun t => t.kind == 1 := ⟨_, rfl⟩
  obtain ⟨x, hx⟩ : ∃ x : Int, x = (if fb = true then 2 else 1) := ⟨_, rfl⟩
  have HXX : Hid (x = if lastK ts = 1 then 2 else 1) := by
    show _ = _
    rw [hx]
    unfold lastK
    rw [← hfb]
    cases fb <;> rfl
  have HX1 : Hid (∀ w : World, Calls Tryd.prog 31 #[.bool fb] w fun e w' => e = .returned (.int .i64 x) ∧ w = w') := fun w => by rw [hx]; exact exit_any fb w
  rw [← hfb] at HFD
  clear hfb hx
  dsimp only
  go_wp2_with fail
  refine HP3.out.mono ?_
  rintro e w4 ⟨vp, ps, rfl, hpc, hfl, hpn, hb4⟩
  have HPC4 := Lib.hid hpc
  have HFL := Lib.hid hfl
  have HPN := Lib.hid hpn
  have HB4 := Lib.hid hb4
  have HF4 := Lib.hid (HFD.out w4 hb4)
  clear hpc hfl hpn hb4
  dsimp only
  go_wp2_with fail
  refine HF4.out.mono ?_
  rintro e w5 ⟨rfl, hb5⟩
  have HL5 : Hid (Calls Tryd.prog 23 #[vp, .string ⟨#[112]⟩, .int .i64 x, .string (S []), .bool true] w5 fun e w2 => ∃ evs v', e = .returned v' ∧ evs = convF ps x [] true ∧ EvsAt w2 [112] evs v' ∧ Below w5.heap.size w5 w2) :=
    late_calls HG.out (HB3.out.trans (HB4.out.mono HB3.out.size)) HPC4.out hb5 (by rw [HFL.out]; simp; omega) (by have := HPN.out; omega) x [] true
  have HB5 : Hid (Below w3.heap.size w3 w5) := HB4.out.trans (hb5.mono HB4.out.size)
  clear hb5 HF4
  dsimp only
  go_wp2_with fail
  refine (HX1.out _).mono ?_
  rintro e w' ⟨rfl, rfl⟩
  dsimp only
  go_wp2_with fail
  refine HL5.out.mono ?_
  rintro e w7 ⟨A, v7, rfl, hA, hatA, hb7⟩
  have HB7 : Hid (Below w3.heap.size w3 w7) := HB5.out.trans (hb7.mono HB5.out.size)
  rw [story_law ts HPT.out ps (by rw [HFL.out]; exact HSX.out) x HXX.out] at hA
  have hse := HSE.out.below HB7.out
  rw [← hA] at hse
  obtain ⟨pA, cA, rfl, hfA⟩ := hatA.form
  have hne : A ≠ [] := by rw [hA]; unfold storyE; simp
  obtain ⟨gA, rfl, hlA⟩ := hfA hne
  obtain ⟨pE, cE, rfl, hlE, helE⟩ := hse
  have hpos : 0 < A.length := List.length_pos_iff.2 hne
  obtain ⟨gE, rfl, _⟩ := helE 0 hpos
  have hbig : A.length ≤ maxLen := hatA.few
  obtain ⟨a, ha⟩ : ∃ a, a = A.length := ⟨_, rfl⟩
  rw [← ha] at hlA hlE hatA hbig ⊢
  have hbig2 : a ≤ 9223372036854775807 := by unfold maxLen at hbig; omega
  have HAA := Lib.hid ha
  have HATA := Lib.hid hatA
  have HELE := Lib.hid helE
  have HBW : Hid (Below W.heap.size W w7) := HB3.out.trans (HB7.out.mono HB3.out.size)
  have HCELL : Hid (∀ w', Below w7.heap.size w7 w' → ∀ i, i < a → ∃ (e : Ev) (p1 : Option Addr) (n1 c1 : Nat), CellsE w' gA i [112] e p1 n1 c1 ∧ SpecE w' gE i e) := by
    intro w' hbw i hi
    obtain ⟨e1, p1, n1, c1, he1, hc1⟩ := (HATA.out.below hbw).at HAA.out i hi
    obtain ⟨g', hg', h0, h1, h2, h3⟩ := HELE.out i (by rw [← HAA.out]; exact hi)
    cases hg'
    have : A[i]'(by rw [← HAA.out]; exact hi) = e1 := by
      have h2 := he1.out
      rw [List.getElem?_eq_getElem (by rw [← HAA.out]; exact hi)] at h2
      exact Option.some.inj h2
    rw [this] at h0 h1 h2 h3
    exact ⟨e1, p1, n1, c1, hc1, cellB hbw h0, cellB hbw h1, cellB hbw h2, cellB hbw h3⟩
  clear hatA hfA helE ha hne hA hb7 HL5
  dsimp only
  go_wp2_with fail
  go_loopw [64] (fun v64 wr => ∃ i : Nat, v64 = .int .i64 i ∧ i ≤ a ∧ Hid (Below w7.heap.size w7 wr)) (fun v64 _ => a - (intOf v64).toNat)
  case atStart => exact ⟨0, rfl, Nat.zero_le _, Below.refl _ _⟩
  case round =>
    obtain ⟨i, rfl, hin, HBr⟩ := hrel
    by_cases hlt : i < a
    · obtain ⟨e, p1, n1, c1, hc1, hc2⟩ := HCELL.out wr HBr.out i hlt
      have hbo : ∀ o, Below wr.heap.size wr (wr.alloc o) := fun o => (Below.refl _ wr).alloc (Nat.le_refl _) o
      have s1 : ∀ o o2, (convert 23 9 (.slice p1 n1 c1)).run Tryd.prog ((wr.alloc o).alloc o2) = .ok (.string (S e.output)) ((wr.alloc o).alloc o2) := fun o o2 => hc1.str ((hbo o).alloc (by rw [size_alloc]; omega) o2)
      have f0 : ∀ o, (wr.alloc o).cell? ⟨gA, i * 9, none⟩ = some (.string (S e.action)) := fun o => cellB (hbo o) hc1.c0
      have f1 : ∀ o, (wr.alloc o).cell? ⟨gA, i * 9 + 1, none⟩ = some (.string (S [112])) := fun o => cellB (hbo o) hc1.c1
      have f2 : ∀ o, (wr.alloc o).cell? ⟨gA, i * 9 + 2, none⟩ = some (.string (S e.test)) := fun o => cellB (hbo o) hc1.c2
      have f3 : ∀ o, (wr.alloc o).cell? ⟨gA, i * 9 + 3, none⟩ = some (.slice p1 n1 c1) := fun o => cellB (hbo o) hc1.c3
      have f4 : ∀ o, (wr.alloc o).cell? ⟨gA, i * 9 + 4, none⟩ = some (.string (S e.otype)) := fun o => cellB (hbo o) hc1.c4
      have f5 : ∀ o, (wr.alloc o).cell? ⟨gA, i * 9 + 5, none⟩ = some (.string (S e.fb)) := fun o => cellB (hbo o) hc1.c5
      have f6 : ∀ o, (wr.alloc o).cell? ⟨gA, i * 9 + 6, none⟩ = some (.string (S e.key)) := fun o => cellB (hbo o) hc1.c6
      have f7 : ∀ o, (wr.alloc o).cell? ⟨gA, i * 9 + 7, none⟩ = some (.string (S e.value)) := fun o => cellB (hbo o) hc1.c7
      have f8 : ∀ o, (wr.alloc o).cell? ⟨gA, i * 9 + 8, none⟩ = some (.string (S e.path)) := fun o => cellB (hbo o) hc1.c8
      obtain ⟨d0, d1, d2, d3⟩ := hc2
      have ia : (i : Int) < (a : Int) := by omega
      have t1 : ((S [112]).data.toList != [112]) = false := by decide
      have t2 : ((S [112]).data.toList == [112]) = true := by decide
      clear hc1 hbo
      go_wp2_with fail
      go_roundw
      case rel => exact ⟨i + 1, by go_num, by omega, (HBr.out.alloc HBr.out.size _).alloc (by rw [size_alloc]; have := HBr.out.size; omega) _⟩
      case measure => simp [intOf]; omega
    · have hb5 : Below W.heap.size W wr := HBW.out.trans (HBr.out.mono HBW.out.size)
      have HB5' := Lib.hid hb5
      have hwr := HW.out wr hb5
      clear hb5
      go_wp2_with fail
      refine hwr.mono ?_
      rintro e w6 ⟨rfl, hb6⟩
      go_wp2_with fail
      go_ret
      exact ⟨rfl, HB5'.out.trans (hb6.mono HB5'.out.size)⟩

end Go.Proofs.YtdljobmhnnegiaaDoor
