/- The callbacks of ZZLines (functions 48 and 49). -/
import Derived.Test.YtdljobmhnnegiaaDoorLinesZ
namespace Go.Proofs.YtdljobmhnnegiaaDoor
open Go.RowKit

theorem info23 : (Tryd.prog.info? 23).map (fun i => (i.zero, i.size, i.bytes)) = some (some (.slice none 0 0), 1, 24) := by kernel_rfl
theorem info4 : (Tryd.prog.info? 4).map (fun i => (i.zero, i.size, i.bytes)) = some (some (.bool false), 1, 1) := by kernel_rfl

section
variable {ops : Array Oper} {o : Oper} {a : Act} {K : Act → World → Prop} {Q : Exit → Act → World → Prop} {E : Prop}
  {w0 W : World} {base : Nat} {vT vW : Value} {n : Nat} {xs ys : List Value} {l : List UInt8} {q : Bool} {s7 : Option Nat}

theorem zz_step3 (hgd : o.guard = none) (s x : Operand) (ho : o.op = .call { callee := .builtin .append, args := #[s, x], argTypes := #[23, 23] }) {g1 B i cs : Nat}
    (hs : a.eval s = .slice (some ⟨g1, 0, none⟩) 0 0) (hx : a.eval x = .slice (some ⟨B, i, none⟩) l.length cs) (hz : ZZ w0 base vT n xs l q (some g1) none none none s7 W) (hsrc : Rd W B i l) (hl : 0 < l.length) (hl2 : l.length ≤ 1000000)
    (h : ∀ g c w', ZZ w0 base vT n xs l q none (some (g, c)) none none s7 w' → K (a.put o.dst (.slice (some ⟨g, 0, none⟩) l.length c)) w') :
    if Region.wanted o (yielded ops a.tmps) = true then Oper.wp Tryd.prog o a W K Q else E := by
  obtain ⟨i0, hi, hz0, hz1, hz2⟩ := info_parts info5
  have hf := hz.f1 g1 rfl
  have hown : W.ownsRow w0.heap.size 5 1 (.slice (some ⟨g1, 0, none⟩) 0 0) 0 [] := ⟨rfl, .inr ⟨g1, 0, #[], rfl, hf.1, hf.2, Nat.le_refl _, by unfold maxLen; omega, rfl, rfl⟩⟩
  refine step_append_lies W hgd s x 23 ho w0.heap.size 5 i0 (.int .u8 0) 1 1 Tryd.underlying23 hi hz0 hz1 hz2 rfl (by decide) _ 0 [] hs hown ⟨B, i, none⟩ l.length cs (vals l) hx (by rw [vals_length]; omega) hsrc.vals (vals_one l) hl (by unfold maxLen; omega) (by omega) hz.size _ rfl ?_
  intro g c w' h1 h2 _ h4
  rw [Nat.zero_add] at h1 ⊢
  rw [List.nil_append] at h1
  exact h g c w' (hz.step3 h1 h2 h4)

theorem zz_step5 (hgd : o.guard = none) (s x : Operand) (ho : o.op = .call { callee := .builtin .append, args := #[s, x], argTypes := #[28, 28] }) {g c b : Nat}
    (hs : a.eval s = vT) (hx : a.eval x = .slice (some ⟨b, 0, none⟩) 1 1) (hz : ZZ w0 base vT n xs l q none (some (g, c)) (some b) none s7 W) (hrow : W.ownsRow base 23 1 vT n xs)
    (hT : ∀ k, vT.ownBlock = some k → k < w0.heap.size) (hbase : base ≤ w0.heap.size) (hn : n ≤ 1000000)
    (h : ∀ g' c' w', ZZ w0 base vT n xs l q none (some (g, c)) none (some (g', c')) s7 w' → K (a.put o.dst (.slice (some ⟨g', 0, none⟩) (n + 1) c')) w') :
    if Region.wanted o (yielded ops a.tmps) = true then Oper.wp Tryd.prog o a W K Q else E := by
  obtain ⟨i0, hi, hz0, hz1, hz2⟩ := info_parts info23
  obtain ⟨f0, g0, c0, e0, f1⟩ := hz.f4 b rfl
  cases e0
  refine step_append_lies W hgd s x 28 ho base 23 i0 (.slice none 0 0) 1 24 Tryd.underlying28 hi hz0 hz1 hz2 rfl (by decide) _ n xs hs hrow ⟨b, 0, none⟩ 1 1 [.slice (some ⟨g, 0, none⟩) l.length c] hx rfl (World.news_of_block f1) (by intro u hu; simp at hu; subst hu; rfl) (by decide) (by unfold maxLen; omega) (by omega) (Nat.le_trans hbase hz.size) _ rfl ?_
  intro g' c' w' h1 h2 h3 h4
  exact h g' c' w' (hz.step5 hT h1 h2 h3 h4)

theorem zz_step8 (hgd : o.guard = none) (s x : Operand) (ho : o.op = .call { callee := .builtin .append, args := #[s, x], argTypes := #[66, 66] }) {b : Nat} {s1 s4 : Option Nat} {s3 s5 : Option (Nat × Nat)}
    (hs : a.eval s = vW) (hx : a.eval x = .slice (some ⟨b, 0, none⟩) 1 1) (hz : ZZ w0 base vT n xs l q s1 s3 s4 s5 (some b) W) (hrow : W.ownsRow base 4 1 vW n ys)
    (hbase : base ≤ w0.heap.size) (hn : n ≤ 1000000)
    (h : ∀ g' c' w', W.grownBy w' vW.ownBlock → w'.ownsRow base 4 1 (.slice (some ⟨g', 0, none⟩) (n + 1) c') (n + 1) (ys ++ [.bool q]) → (vW.ownBlock = some g' ∨ g' = W.heap.size) → K (a.put o.dst (.slice (some ⟨g', 0, none⟩) (n + 1) c')) w') :
    if Region.wanted o (yielded ops a.tmps) = true then Oper.wp Tryd.prog o a W K Q else E := by
  obtain ⟨i0, hi, hz0, hz1, hz2⟩ := info_parts info4
  have f7 := hz.f7 b rfl
  refine step_append_lies W hgd s x 66 ho base 4 i0 (.bool false) 1 1 Tryd.underlying66 hi hz0 hz1 hz2 rfl (by decide) _ n ys hs hrow ⟨b, 0, none⟩ 1 1 [.bool q] hx rfl (World.news_of_block f7.2) (by intro u hu; simp at hu; subst hu; rfl) (by decide) (by unfold maxLen; omega) (by omega) (Nat.le_trans hbase hz.size) _ rfl ?_
  intro g' c' w' h1 h2 h3 _
  exact h g' c' w' h2 h1 h3
end

/-- All texts' bytes. -/
def potZ (st : List (List UInt8 × Bool)) : Nat := (st.map (·.1.length)).sum

set_option maxRecDepth 100000 in
set_option maxHeartbeats 4000000 in
theorem zline48 {w00 : World} {base c B b4 b5 cap M : Nat} {lv pv : Value} (hc : c < base) (hB : B < base) (hb4 : b4 < base) (hb5 : b5 < base) (hne : b4 ≠ b5) (n1 : b4 ≠ c) (n2 : b4 ≠ B) (n3 : b5 ≠ c) (n4 : b5 ≠ B) (hM : M ≤ 1000000) :
    CB potZ M c 0 B cap lv pv (fun st w => ZL w00 base c B b4 b5 st w) (fun st l => st ++ [(l, true)]) 48 #[] #[.pointer (some ⟨b4, 0, none⟩), .pointer (some ⟨b5, 0, none⟩)] := by
  intro st n i rest mid esc w k hJ hL hk hkl hpot
  obtain ⟨vT, vW, xs, hb⟩ := hJ.box
  have hbase := hJ.size
  have hfew : st.length ≤ 1000000 := by have := hJ.few; unfold potZ at hpot; omega
  obtain ⟨l, hl⟩ : ∃ l, l = rest.take k := ⟨_, rfl⟩
  have hlk : k = l.length := by rw [hl, List.length_take]; omega
  have hl0 : 0 < l.length := by omega
  have hl2 : l.length ≤ 1000000 := by unfold potZ at hpot; omega
  have hsrc : Rd w B i l := by rw [hl]; exact hL.rd.take k
  have hT : ∀ k, vT.ownBlock = some k → k < w.heap.size := fun k hk => (hb.oT.lt k hk).2
  -- what S says, in whatever world of the walk
  have hSz : ∀ (W : World), (∀ k, k < base → W.heap[k]? = w.heap[k]?) → W.cell? ⟨b4, 0, none⟩ = some vT ∧ W.cell? ⟨b5, 0, none⟩ = some vW := fun W hW => by
    have e4 : W.heap[b4]? = some (.cells #[vT] 28 (0, 0)) := (hW b4 hb4).trans hb.T
    have e5 : W.heap[b5]? = some (.cells #[vW] 66 (0, 0)) := (hW b5 hb5).trans hb.W
    exact ⟨by simp [World.cell?, e4], by simp [World.cell?, e5]⟩
  have hFz : ∀ (W : World), (∀ k, k < base → W.heap[k]? = w.heap[k]?) → W.frozen? ⟨b4, 0, none⟩ = false ∧ W.frozen? ⟨b5, 0, none⟩ = false := fun W hW => by
    have e4 : W.heap[b4]? = some (.cells #[vT] 28 (0, 0)) := (hW b4 hb4).trans hb.T
    have e5 : W.heap[b5]? = some (.cells #[vW] 66 (0, 0)) := (hW b5 hb5).trans hb.W
    exact ⟨by simp [World.frozen?, e4], by simp [World.frozen?, e5]⟩
  have hlow : ∀ (s1 s4 s7 : Option Nat) (s3 s5 : Option (Nat × Nat)) (W : World), ZZ w base vT st.length xs l true s1 s3 s4 s5 s7 W → ∀ k, k < base → W.heap[k]? = w.heap[k]? := fun _ _ _ _ _ _ hz k hk => hb.low hbase hz k hk
  have hS0 := hSz w.drew (fun _ _ => rfl)
  have hz0 := ZZ.start w base vT st.length xs l true
  have hsame : ∀ (W : World), (∀ k, k < base → W.heap[k]? = w.heap[k]?) → Rd W B i l := fun W hW => hsrc.same (hW B hB)
  -- the end, in whatever order
  have hend : ∀ (s7 : Option Nat) (g c1 g' c' g2 c2 : Nat) (W w8 : World), ZZ w base vT st.length xs l true none (some (g, c1)) none (some (g', c')) s7 W → W.grownBy w8 vW.ownBlock →
      w8.ownsRow base 4 1 (.slice (some ⟨g2, 0, none⟩) (st.length + 1) c2) (st.length + 1) ((st.map fun p => Value.bool p.2) ++ [.bool true]) → (vW.ownBlock = some g2 ∨ g2 = W.heap.size) →
      ZL w00 base c B b4 b5 (st ++ [(l, true)]) ((w8.setCell ⟨b4, 0, none⟩ (.slice (some ⟨g', 0, none⟩) (st.length + 1) c')).setCell ⟨b5, 0, none⟩ (.slice (some ⟨g2, 0, none⟩) (st.length + 1) c2)) ∧
      LBS c 0 B cap lv pv n (i + k) (rest.drop k) mid esc ((w8.setCell ⟨b4, 0, none⟩ (.slice (some ⟨g', 0, none⟩) (st.length + 1) c')).setCell ⟨b5, 0, none⟩ (.slice (some ⟨g2, 0, none⟩) (st.length + 1) c2)) := by
    intro s7 g c1 g' c' g2 c2 W w8 hz hg ho hat
    have hk8 := hb.low8 hbase hz hg
    have hkk : ∀ j, j < base → j ≠ b4 → j ≠ b5 → ((w8.setCell ⟨b4, 0, none⟩ (.slice (some ⟨g', 0, none⟩) (st.length + 1) c')).setCell ⟨b5, 0, none⟩ (.slice (some ⟨g2, 0, none⟩) (st.length + 1) c2)).heap[j]? = w.heap[j]? := fun j h h4 h5 => by
      rw [Below.heap_setCell _ _ _ _ h5, Below.heap_setCell _ _ _ _ h4]; exact hk8 j h
    refine ⟨⟨?_, ?_, ?_, ?_, fun j h1 h2 h3 h4 h5 => (hkk j h1 h4 h5).trans (hJ.keep j h1 h2 h3 h4 h5), ?_, _, _, _, hb.next hz hg ho hat hb4 hb5 hne hbase⟩, ?_⟩
    · exact (hg.os.trans hz.os).trans hJ.os
    · exact (hg.tape.trans hz.tape).trans hJ.tape
    · exact (hg.output.trans hz.output).trans hJ.output
    · have h1 := hz.size
      have h2 := hg.size
      simp [World.setCell]
      omega
    · have := hJ.few
      simp
      omega
    · exact (hL.same (hkk c hc (Ne.symm n1) (Ne.symm n3)) (hkk B hB (Ne.symm n2) (Ne.symm n4))).skip k hkl
  have HEND := Lib.hid hend
  have HSz := Lib.hid hSz
  have HFz := Lib.hid hFz
  have HLOW := Lib.hid hlow
  have HSM := Lib.hid hsame
  have HB := Lib.hid hb
  have HZ0 := Lib.hid hz0
  have HT := Lib.hid hT
  rw [← hl]
  clear hend hSz hFz hlow hsame hb hz0 hT hJ hL hsrc hpot hl hkl n1 n2 n3 n4 hc hB hb4 hb5 hM
  subst hlk
  go_enter Tryd.func48, Tryd.ntmps48
  refine wp_region_late (by kernel_rfl) (fun w' => w'.cell? ⟨b4, 0, none⟩ = some vT ∧ w'.cell? ⟨b5, 0, none⟩ = some vW) (fun j => Nat.ble 9 j) ?_
  refine LateAny.take (i := 0) (v := vT) rfl (by kernel_rfl) (by kernel_rfl) (by kernel_rfl) (by kernel_rfl) (fun _ _ _ h => h) (Or.inl ⟨by rfl, fun w' h => by go_simp⟩) hS0 ?_
  refine LateAny.take (i := 2) (v := .slice (some ⟨B, i, none⟩) l.length (cap - i)) rfl (by kernel_rfl) (by kernel_rfl) (by kernel_rfl) (by kernel_rfl) (fun _ _ _ h => h) (Or.inl ⟨by rfl, fun w' h => by go_simp⟩) hS0 ?_
  refine LateAny.take (i := 6) (v := vW) rfl (by kernel_rfl) (by kernel_rfl) (by kernel_rfl) (by kernel_rfl) (fun _ _ _ h => h) (Or.inl ⟨by rfl, fun w' h => by go_simp⟩) hS0 ?_
  have HZ := HZ0
  clear HZ0 hS0
  generalize w.drew = W0 at HZ ⊢
  refine LateAny.ready (rs := [1, 7]) (by kernel_rfl) (by simp) ?_
  refine LateReady.cons rfl (fun K hK => ?_) ?_
  · go_simp
    have HZ' := Lib.hid (HZ.out.step1)
    refine hK.out _ _ (fun _ => HSz.out _ (HLOW.out _ _ _ _ _ _ HZ'.out)) ?_
    clear hK K HZ
    have HZ := HZ'
    clear HZ'
    generalize hG1 : W0.heap.size = G1 at HZ ⊢
    generalize (World.alloc W0 _) = W1 at HZ ⊢
    clear hG1 W0
    refine LateAny.ready (rs := [3, 7]) (by kernel_rfl) (by simp) ?_
    refine LateReady.cons rfl (fun K hK => ?_) ?_
    · refine zz_step3 rfl (.tmp 5) (.tmp 6) rfl rfl rfl HZ.out (HSM.out _ (HLOW.out _ _ _ _ _ _ HZ.out)) hl0 hl2 ?_
      intro g c1 W2 hz'
      refine hK.out _ _ (fun _ => HSz.out _ (HLOW.out _ _ _ _ _ _ hz')) ?_
      clear hK K HZ
      have HZ := Lib.hid hz'
      clear hz' W1
      refine LateAny.ready (rs := [4, 7]) (by kernel_rfl) (by simp) ?_
      refine LateReady.cons rfl (fun K hK => ?_) ?_
      · go_simp
        have HZ' := Lib.hid (HZ.out.step4)
        refine hK.out _ _ (fun _ => HSz.out _ (HLOW.out _ _ _ _ _ _ HZ'.out)) ?_
        clear hK K HZ
        have HZ := HZ'
        clear HZ'
        generalize hG4 : W2.heap.size = G4 at HZ ⊢
        generalize (World.alloc W2 _) = W3 at HZ ⊢
        clear hG4 W2
        refine LateAny.ready (rs := [5, 7]) (by kernel_rfl) (by simp) ?_
        refine LateReady.cons rfl (fun K hK => ?_) ?_
        · refine zz_step5 rfl (.tmp 4) (.tmp 8) rfl rfl rfl HZ.out (HB.out.rowT HZ.out) HT.out hbase hfew ?_
          intro g' c' W4 hz'
          refine hK.out _ _ (fun _ => HSz.out _ (HLOW.out _ _ _ _ _ _ hz')) ?_
          clear hK K HZ
          have HZ := Lib.hid hz'
          clear hz' W3
          refine LateAny.ready (rs := [7]) (by kernel_rfl) (by simp) ?_
          refine LateReady.cons rfl (fun K hK => ?_) ?_
          · go_simp
            have HZ' := Lib.hid (HZ.out.step7)
            refine hK.out _ _ (fun _ => HSz.out _ (HLOW.out _ _ _ _ _ _ HZ'.out)) ?_
            clear hK K HZ
            have HZ := HZ'
            clear HZ'
            generalize hG7 : W4.heap.size = G7 at HZ ⊢
            generalize (World.alloc W4 _) = W5 at HZ ⊢
            clear hG7 W4
            refine LateAny.ready (rs := [8]) (by kernel_rfl) (by simp) ?_
            refine LateReady.cons rfl (fun K hK => ?_) LateReady.nil
            refine zz_step8 rfl (.tmp 10) (.tmp 11) rfl rfl rfl HZ.out (HB.out.rowW HZ.out) hbase hfew ?_
            intro g2 c2 w8 hg8 ho8 hat8
            have h8 := HB.out.low8 hbase HZ.out hg8
            have hE := Lib.hid (HEND.out _ _ _ _ _ _ _ _ _ HZ.out hg8 ho8 hat8)
            have hS8 := HSz.out _ h8
            have hF8 := HFz.out _ h8
            refine hK.out _ _ (fun _ => hS8) ?_
            clear hK K
            clear h8 hg8 ho8 hat8
            obtain ⟨hS8a, hS8b⟩ := hS8
            obtain ⟨hF8a, hF8b⟩ := hF8
            refine LateAny.ready (rs := [9]) (by kernel_rfl) (by simp) ?_
            refine LateReady.cons rfl (fun K hK => ?_) LateReady.nil
            go_simp
            refine hK.out _ _ (fun h => by cases h) ?_
            clear hK K
            have hS9 : (w8.setCell ⟨b4, 0, none⟩ (.slice (some ⟨g', 0, none⟩) (st.length + 1) c')).cell? ⟨b5, 0, none⟩ = some vW := by rw [cell_set_ne (by omega)]; exact hS8b
            refine LateAny.ready (rs := [10]) (by kernel_rfl) (by simp) ?_
            refine LateReady.cons rfl (fun K hK => ?_) LateReady.nil
            go_simp
            refine hK.out _ _ (fun h => by cases h) ?_
            clear hK K
            refine LateAny.done (by kernel_rfl) ?_ _
            go_end0
            exact ⟨rfl, hE.out.1, hE.out.2⟩
          exact LateReady.nil
        refine LateReady.cons rfl (fun K hK => ?_) ?_
        · go_simp
          have HZ' := Lib.hid (HZ.out.step7)
          refine hK.out _ _ (fun _ => HSz.out _ (HLOW.out _ _ _ _ _ _ HZ'.out)) ?_
          clear hK K HZ
          have HZ := HZ'
          clear HZ'
          generalize hG7 : W3.heap.size = G7 at HZ ⊢
          generalize (World.alloc W3 _) = W4 at HZ ⊢
          clear hG7 W3
          refine LateAny.ready (rs := [5]) (by kernel_rfl) (by simp) ?_
          refine LateReady.cons rfl (fun K hK => ?_) ?_
          · refine zz_step5 rfl (.tmp 4) (.tmp 8) rfl rfl rfl HZ.out (HB.out.rowT HZ.out) HT.out hbase hfew ?_
            intro g' c' W5 hz'
            refine hK.out _ _ (fun _ => HSz.out _ (HLOW.out _ _ _ _ _ _ hz')) ?_
            clear hK K HZ
            have HZ := Lib.hid hz'
            clear hz' W4
            refine LateAny.ready (rs := [8]) (by kernel_rfl) (by simp) ?_
            refine LateReady.cons rfl (fun K hK => ?_) LateReady.nil
            refine zz_step8 rfl (.tmp 10) (.tmp 11) rfl rfl rfl HZ.out (HB.out.rowW HZ.out) hbase hfew ?_
            intro g2 c2 w8 hg8 ho8 hat8
            have h8 := HB.out.low8 hbase HZ.out hg8
            have hE := Lib.hid (HEND.out _ _ _ _ _ _ _ _ _ HZ.out hg8 ho8 hat8)
            have hS8 := HSz.out _ h8
            have hF8 := HFz.out _ h8
            refine hK.out _ _ (fun _ => hS8) ?_
            clear hK K
            clear h8 hg8 ho8 hat8
            obtain ⟨hS8a, hS8b⟩ := hS8
            obtain ⟨hF8a, hF8b⟩ := hF8
            refine LateAny.ready (rs := [9]) (by kernel_rfl) (by simp) ?_
            refine LateReady.cons rfl (fun K hK => ?_) LateReady.nil
            go_simp
            refine hK.out _ _ (fun h => by cases h) ?_
            clear hK K
            have hS9 : (w8.setCell ⟨b4, 0, none⟩ (.slice (some ⟨g', 0, none⟩) (st.length + 1) c')).cell? ⟨b5, 0, none⟩ = some vW := by rw [cell_set_ne (by omega)]; exact hS8b
            refine LateAny.ready (rs := [10]) (by kernel_rfl) (by simp) ?_
            refine LateReady.cons rfl (fun K hK => ?_) LateReady.nil
            go_simp
            refine hK.out _ _ (fun h => by cases h) ?_
            clear hK K
            refine LateAny.done (by kernel_rfl) ?_ _
            go_end0
            exact ⟨rfl, hE.out.1, hE.out.2⟩
          exact LateReady.nil
        exact LateReady.nil
      refine LateReady.cons rfl (fun K hK => ?_) ?_
      · go_simp
        have HZ' := Lib.hid (HZ.out.step7)
        refine hK.out _ _ (fun _ => HSz.out _ (HLOW.out _ _ _ _ _ _ HZ'.out)) ?_
        clear hK K HZ
        have HZ := HZ'
        clear HZ'
        generalize hG7 : W2.heap.size = G7 at HZ ⊢
        generalize (World.alloc W2 _) = W3 at HZ ⊢
        clear hG7 W2
        refine LateAny.ready (rs := [4]) (by kernel_rfl) (by simp) ?_
        refine LateReady.cons rfl (fun K hK => ?_) ?_
        · go_simp
          have HZ' := Lib.hid (HZ.out.step4)
          refine hK.out _ _ (fun _ => HSz.out _ (HLOW.out _ _ _ _ _ _ HZ'.out)) ?_
          clear hK K HZ
          have HZ := HZ'
          clear HZ'
          generalize hG4 : W3.heap.size = G4 at HZ ⊢
          generalize (World.alloc W3 _) = W4 at HZ ⊢
          clear hG4 W3
          refine LateAny.ready (rs := [5]) (by kernel_rfl) (by simp) ?_
          refine LateReady.cons rfl (fun K hK => ?_) ?_
          · refine zz_step5 rfl (.tmp 4) (.tmp 8) rfl rfl rfl HZ.out (HB.out.rowT HZ.out) HT.out hbase hfew ?_
            intro g' c' W5 hz'
            refine hK.out _ _ (fun _ => HSz.out _ (HLOW.out _ _ _ _ _ _ hz')) ?_
            clear hK K HZ
            have HZ := Lib.hid hz'
            clear hz' W4
            refine LateAny.ready (rs := [8]) (by kernel_rfl) (by simp) ?_
            refine LateReady.cons rfl (fun K hK => ?_) LateReady.nil
            refine zz_step8 rfl (.tmp 10) (.tmp 11) rfl rfl rfl HZ.out (HB.out.rowW HZ.out) hbase hfew ?_
            intro g2 c2 w8 hg8 ho8 hat8
            have h8 := HB.out.low8 hbase HZ.out hg8
            have hE := Lib.hid (HEND.out _ _ _ _ _ _ _ _ _ HZ.out hg8 ho8 hat8)
            have hS8 := HSz.out _ h8
            have hF8 := HFz.out _ h8
            refine hK.out _ _ (fun _ => hS8) ?_
            clear hK K
            clear h8 hg8 ho8 hat8
            obtain ⟨hS8a, hS8b⟩ := hS8
            obtain ⟨hF8a, hF8b⟩ := hF8
            refine LateAny.ready (rs := [9]) (by kernel_rfl) (by simp) ?_
            refine LateReady.cons rfl (fun K hK => ?_) LateReady.nil
            go_simp
            refine hK.out _ _ (fun h => by cases h) ?_
            clear hK K
            have hS9 : (w8.setCell ⟨b4, 0, none⟩ (.slice (some ⟨g', 0, none⟩) (st.length + 1) c')).cell? ⟨b5, 0, none⟩ = some vW := by rw [cell_set_ne (by omega)]; exact hS8b
            refine LateAny.ready (rs := [10]) (by kernel_rfl) (by simp) ?_
            refine LateReady.cons rfl (fun K hK => ?_) LateReady.nil
            go_simp
            refine hK.out _ _ (fun h => by cases h) ?_
            clear hK K
            refine LateAny.done (by kernel_rfl) ?_ _
            go_end0
            exact ⟨rfl, hE.out.1, hE.out.2⟩
          exact LateReady.nil
        exact LateReady.nil
      exact LateReady.nil
    refine LateReady.cons rfl (fun K hK => ?_) ?_
    · go_simp
      have HZ' := Lib.hid (HZ.out.step7)
      refine hK.out _ _ (fun _ => HSz.out _ (HLOW.out _ _ _ _ _ _ HZ'.out)) ?_
      clear hK K HZ
      have HZ := HZ'
      clear HZ'
      generalize hG7 : W1.heap.size = G7 at HZ ⊢
      generalize (World.alloc W1 _) = W2 at HZ ⊢
      clear hG7 W1
      refine LateAny.ready (rs := [3]) (by kernel_rfl) (by simp) ?_
      refine LateReady.cons rfl (fun K hK => ?_) ?_
      · refine zz_step3 rfl (.tmp 5) (.tmp 6) rfl rfl rfl HZ.out (HSM.out _ (HLOW.out _ _ _ _ _ _ HZ.out)) hl0 hl2 ?_
        intro g c1 W3 hz'
        refine hK.out _ _ (fun _ => HSz.out _ (HLOW.out _ _ _ _ _ _ hz')) ?_
        clear hK K HZ
        have HZ := Lib.hid hz'
        clear hz' W2
        refine LateAny.ready (rs := [4]) (by kernel_rfl) (by simp) ?_
        refine LateReady.cons rfl (fun K hK => ?_) ?_
        · go_simp
          have HZ' := Lib.hid (HZ.out.step4)
          refine hK.out _ _ (fun _ => HSz.out _ (HLOW.out _ _ _ _ _ _ HZ'.out)) ?_
          clear hK K HZ
          have HZ := HZ'
          clear HZ'
          generalize hG4 : W3.heap.size = G4 at HZ ⊢
          generalize (World.alloc W3 _) = W4 at HZ ⊢
          clear hG4 W3
          refine LateAny.ready (rs := [5]) (by kernel_rfl) (by simp) ?_
          refine LateReady.cons rfl (fun K hK => ?_) ?_
          · refine zz_step5 rfl (.tmp 4) (.tmp 8) rfl rfl rfl HZ.out (HB.out.rowT HZ.out) HT.out hbase hfew ?_
            intro g' c' W5 hz'
            refine hK.out _ _ (fun _ => HSz.out _ (HLOW.out _ _ _ _ _ _ hz')) ?_
            clear hK K HZ
            have HZ := Lib.hid hz'
            clear hz' W4
            refine LateAny.ready (rs := [8]) (by kernel_rfl) (by simp) ?_
            refine LateReady.cons rfl (fun K hK => ?_) LateReady.nil
            refine zz_step8 rfl (.tmp 10) (.tmp 11) rfl rfl rfl HZ.out (HB.out.rowW HZ.out) hbase hfew ?_
            intro g2 c2 w8 hg8 ho8 hat8
            have h8 := HB.out.low8 hbase HZ.out hg8
            have hE := Lib.hid (HEND.out _ _ _ _ _ _ _ _ _ HZ.out hg8 ho8 hat8)
            have hS8 := HSz.out _ h8
            have hF8 := HFz.out _ h8
            refine hK.out _ _ (fun _ => hS8) ?_
            clear hK K
            clear h8 hg8 ho8 hat8
            obtain ⟨hS8a, hS8b⟩ := hS8
            obtain ⟨hF8a, hF8b⟩ := hF8
            refine LateAny.ready (rs := [9]) (by kernel_rfl) (by simp) ?_
            refine LateReady.cons rfl (fun K hK => ?_) LateReady.nil
            go_simp
            refine hK.out _ _ (fun h => by cases h) ?_
            clear hK K
            have hS9 : (w8.setCell ⟨b4, 0, none⟩ (.slice (some ⟨g', 0, none⟩) (st.length + 1) c')).cell? ⟨b5, 0, none⟩ = some vW := by rw [cell_set_ne (by omega)]; exact hS8b
            refine LateAny.ready (rs := [10]) (by kernel_rfl) (by simp) ?_
            refine LateReady.cons rfl (fun K hK => ?_) LateReady.nil
            go_simp
            refine hK.out _ _ (fun h => by cases h) ?_
            clear hK K
            refine LateAny.done (by kernel_rfl) ?_ _
            go_end0
            exact ⟨rfl, hE.out.1, hE.out.2⟩
          exact LateReady.nil
        exact LateReady.nil
      exact LateReady.nil
    exact LateReady.nil
  refine LateReady.cons rfl (fun K hK => ?_) ?_
  · go_simp
    have HZ' := Lib.hid (HZ.out.step7)
    refine hK.out _ _ (fun _ => HSz.out _ (HLOW.out _ _ _ _ _ _ HZ'.out)) ?_
    clear hK K HZ
    have HZ := HZ'
    clear HZ'
    generalize hG7 : W0.heap.size = G7 at HZ ⊢
    generalize (World.alloc W0 _) = W1 at HZ ⊢
    clear hG7 W0
    refine LateAny.ready (rs := [1]) (by kernel_rfl) (by simp) ?_
    refine LateReady.cons rfl (fun K hK => ?_) ?_
    · go_simp
      have HZ' := Lib.hid (HZ.out.step1)
      refine hK.out _ _ (fun _ => HSz.out _ (HLOW.out _ _ _ _ _ _ HZ'.out)) ?_
      clear hK K HZ
      have HZ := HZ'
      clear HZ'
      generalize hG1 : W1.heap.size = G1 at HZ ⊢
      generalize (World.alloc W1 _) = W2 at HZ ⊢
      clear hG1 W1
      refine LateAny.ready (rs := [3]) (by kernel_rfl) (by simp) ?_
      refine LateReady.cons rfl (fun K hK => ?_) ?_
      · refine zz_step3 rfl (.tmp 5) (.tmp 6) rfl rfl rfl HZ.out (HSM.out _ (HLOW.out _ _ _ _ _ _ HZ.out)) hl0 hl2 ?_
        intro g c1 W3 hz'
        refine hK.out _ _ (fun _ => HSz.out _ (HLOW.out _ _ _ _ _ _ hz')) ?_
        clear hK K HZ
        have HZ := Lib.hid hz'
        clear hz' W2
        refine LateAny.ready (rs := [4]) (by kernel_rfl) (by simp) ?_
        refine LateReady.cons rfl (fun K hK => ?_) ?_
        · go_simp
          have HZ' := Lib.hid (HZ.out.step4)
          refine hK.out _ _ (fun _ => HSz.out _ (HLOW.out _ _ _ _ _ _ HZ'.out)) ?_
          clear hK K HZ
          have HZ := HZ'
          clear HZ'
          generalize hG4 : W3.heap.size = G4 at HZ ⊢
          generalize (World.alloc W3 _) = W4 at HZ ⊢
          clear hG4 W3
          refine LateAny.ready (rs := [5]) (by kernel_rfl) (by simp) ?_
          refine LateReady.cons rfl (fun K hK => ?_) ?_
          · refine zz_step5 rfl (.tmp 4) (.tmp 8) rfl rfl rfl HZ.out (HB.out.rowT HZ.out) HT.out hbase hfew ?_
            intro g' c' W5 hz'
            refine hK.out _ _ (fun _ => HSz.out _ (HLOW.out _ _ _ _ _ _ hz')) ?_
            clear hK K HZ
            have HZ := Lib.hid hz'
            clear hz' W4
            refine LateAny.ready (rs := [8]) (by kernel_rfl) (by simp) ?_
            refine LateReady.cons rfl (fun K hK => ?_) LateReady.nil
            refine zz_step8 rfl (.tmp 10) (.tmp 11) rfl rfl rfl HZ.out (HB.out.rowW HZ.out) hbase hfew ?_
            intro g2 c2 w8 hg8 ho8 hat8
            have h8 := HB.out.low8 hbase HZ.out hg8
            have hE := Lib.hid (HEND.out _ _ _ _ _ _ _ _ _ HZ.out hg8 ho8 hat8)
            have hS8 := HSz.out _ h8
            have hF8 := HFz.out _ h8
            refine hK.out _ _ (fun _ => hS8) ?_
            clear hK K
            clear h8 hg8 ho8 hat8
            obtain ⟨hS8a, hS8b⟩ := hS8
            obtain ⟨hF8a, hF8b⟩ := hF8
            refine LateAny.ready (rs := [9]) (by kernel_rfl) (by simp) ?_
            refine LateReady.cons rfl (fun K hK => ?_) LateReady.nil
            go_simp
            refine hK.out _ _ (fun h => by cases h) ?_
            clear hK K
            have hS9 : (w8.setCell ⟨b4, 0, none⟩ (.slice (some ⟨g', 0, none⟩) (st.length + 1) c')).cell? ⟨b5, 0, none⟩ = some vW := by rw [cell_set_ne (by omega)]; exact hS8b
            refine LateAny.ready (rs := [10]) (by kernel_rfl) (by simp) ?_
            refine LateReady.cons rfl (fun K hK => ?_) LateReady.nil
            go_simp
            refine hK.out _ _ (fun h => by cases h) ?_
            clear hK K
            refine LateAny.done (by kernel_rfl) ?_ _
            go_end0
            exact ⟨rfl, hE.out.1, hE.out.2⟩
          exact LateReady.nil
        exact LateReady.nil
      exact LateReady.nil
    exact LateReady.nil
  exact LateReady.nil

set_option maxRecDepth 100000 in
set_option maxHeartbeats 4000000 in
theorem zline49 {w00 : World} {base c B b4 b5 cap M : Nat} {lv pv : Value} (hc : c < base) (hB : B < base) (hb4 : b4 < base) (hb5 : b5 < base) (hne : b4 ≠ b5) (n1 : b4 ≠ c) (n2 : b4 ≠ B) (n3 : b5 ≠ c) (n4 : b5 ≠ B) (hM : M ≤ 1000000) :
    CB potZ M c 0 B cap lv pv (fun st w => ZL w00 base c B b4 b5 st w) (fun st l => st ++ [(l, false)]) 49 #[] #[.pointer (some ⟨b4, 0, none⟩), .pointer (some ⟨b5, 0, none⟩)] := by
  intro st n i rest mid esc w k hJ hL hk hkl hpot
  obtain ⟨vT, vW, xs, hb⟩ := hJ.box
  have hbase := hJ.size
  have hfew : st.length ≤ 1000000 := by have := hJ.few; unfold potZ at hpot; omega
  obtain ⟨l, hl⟩ : ∃ l, l = rest.take k := ⟨_, rfl⟩
  have hlk : k = l.length := by rw [hl, List.length_take]; omega
  have hl0 : 0 < l.length := by omega
  have hl2 : l.length ≤ 1000000 := by unfold potZ at hpot; omega
  have hsrc : Rd w B i l := by rw [hl]; exact hL.rd.take k
  have hT : ∀ k, vT.ownBlock = some k → k < w.heap.size := fun k hk => (hb.oT.lt k hk).2
  -- what S says, in whatever world of the walk
  have hSz : ∀ (W : World), (∀ k, k < base → W.heap[k]? = w.heap[k]?) → W.cell? ⟨b4, 0, none⟩ = some vT ∧ W.cell? ⟨b5, 0, none⟩ = some vW := fun W hW => by
    have e4 : W.heap[b4]? = some (.cells #[vT] 28 (0, 0)) := (hW b4 hb4).trans hb.T
    have e5 : W.heap[b5]? = some (.cells #[vW] 66 (0, 0)) := (hW b5 hb5).trans hb.W
    exact ⟨by simp [World.cell?, e4], by simp [World.cell?, e5]⟩
  have hFz : ∀ (W : World), (∀ k, k < base → W.heap[k]? = w.heap[k]?) → W.frozen? ⟨b4, 0, none⟩ = false ∧ W.frozen? ⟨b5, 0, none⟩ = false := fun W hW => by
    have e4 : W.heap[b4]? = some (.cells #[vT] 28 (0, 0)) := (hW b4 hb4).trans hb.T
    have e5 : W.heap[b5]? = some (.cells #[vW] 66 (0, 0)) := (hW b5 hb5).trans hb.W
    exact ⟨by simp [World.frozen?, e4], by simp [World.frozen?, e5]⟩
  have hlow : ∀ (s1 s4 s7 : Option Nat) (s3 s5 : Option (Nat × Nat)) (W : World), ZZ w base vT st.length xs l false s1 s3 s4 s5 s7 W → ∀ k, k < base → W.heap[k]? = w.heap[k]? := fun _ _ _ _ _ _ hz k hk => hb.low hbase hz k hk
  have hS0 := hSz w.drew (fun _ _ => rfl)
  have hz0 := ZZ.start w base vT st.length xs l false
  have hsame : ∀ (W : World), (∀ k, k < base → W.heap[k]? = w.heap[k]?) → Rd W B i l := fun W hW => hsrc.same (hW B hB)
  -- the end, in whatever order
  have hend : ∀ (s7 : Option Nat) (g c1 g' c' g2 c2 : Nat) (W w8 : World), ZZ w base vT st.length xs l false none (some (g, c1)) none (some (g', c')) s7 W → W.grownBy w8 vW.ownBlock →
      w8.ownsRow base 4 1 (.slice (some ⟨g2, 0, none⟩) (st.length + 1) c2) (st.length + 1) ((st.map fun p => Value.bool p.2) ++ [.bool false]) → (vW.ownBlock = some g2 ∨ g2 = W.heap.size) →
      ZL w00 base c B b4 b5 (st ++ [(l, false)]) ((w8.setCell ⟨b4, 0, none⟩ (.slice (some ⟨g', 0, none⟩) (st.length + 1) c')).setCell ⟨b5, 0, none⟩ (.slice (some ⟨g2, 0, none⟩) (st.length + 1) c2)) ∧
      LBS c 0 B cap lv pv n (i + k) (rest.drop k) mid esc ((w8.setCell ⟨b4, 0, none⟩ (.slice (some ⟨g', 0, none⟩) (st.length + 1) c')).setCell ⟨b5, 0, none⟩ (.slice (some ⟨g2, 0, none⟩) (st.length + 1) c2)) := by
    intro s7 g c1 g' c' g2 c2 W w8 hz hg ho hat
    have hk8 := hb.low8 hbase hz hg
    have hkk : ∀ j, j < base → j ≠ b4 → j ≠ b5 → ((w8.setCell ⟨b4, 0, none⟩ (.slice (some ⟨g', 0, none⟩) (st.length + 1) c')).setCell ⟨b5, 0, none⟩ (.slice (some ⟨g2, 0, none⟩) (st.length + 1) c2)).heap[j]? = w.heap[j]? := fun j h h4 h5 => by
      rw [Below.heap_setCell _ _ _ _ h5, Below.heap_setCell _ _ _ _ h4]; exact hk8 j h
    refine ⟨⟨?_, ?_, ?_, ?_, fun j h1 h2 h3 h4 h5 => (hkk j h1 h4 h5).trans (hJ.keep j h1 h2 h3 h4 h5), ?_, _, _, _, hb.next hz hg ho hat hb4 hb5 hne hbase⟩, ?_⟩
    · exact (hg.os.trans hz.os).trans hJ.os
    · exact (hg.tape.trans hz.tape).trans hJ.tape
    · exact (hg.output.trans hz.output).trans hJ.output
    · have h1 := hz.size
      have h2 := hg.size
      simp [World.setCell]
      omega
    · have := hJ.few
      simp
      omega
    · exact (hL.same (hkk c hc (Ne.symm n1) (Ne.symm n3)) (hkk B hB (Ne.symm n2) (Ne.symm n4))).skip k hkl
  have HEND := Lib.hid hend
  have HSz := Lib.hid hSz
  have HFz := Lib.hid hFz
  have HLOW := Lib.hid hlow
  have HSM := Lib.hid hsame
  have HB := Lib.hid hb
  have HZ0 := Lib.hid hz0
  have HT := Lib.hid hT
  rw [← hl]
  clear hend hSz hFz hlow hsame hb hz0 hT hJ hL hsrc hpot hl hkl n1 n2 n3 n4 hc hB hb4 hb5 hM
  subst hlk
  go_enter Tryd.func49, Tryd.ntmps49
  refine wp_region_late (by kernel_rfl) (fun w' => w'.cell? ⟨b4, 0, none⟩ = some vT ∧ w'.cell? ⟨b5, 0, none⟩ = some vW) (fun j => Nat.ble 9 j) ?_
  refine LateAny.take (i := 0) (v := vT) rfl (by kernel_rfl) (by kernel_rfl) (by kernel_rfl) (by kernel_rfl) (fun _ _ _ h => h) (Or.inl ⟨by rfl, fun w' h => by go_simp⟩) hS0 ?_
  refine LateAny.take (i := 2) (v := .slice (some ⟨B, i, none⟩) l.length (cap - i)) rfl (by kernel_rfl) (by kernel_rfl) (by kernel_rfl) (by kernel_rfl) (fun _ _ _ h => h) (Or.inl ⟨by rfl, fun w' h => by go_simp⟩) hS0 ?_
  refine LateAny.take (i := 6) (v := vW) rfl (by kernel_rfl) (by kernel_rfl) (by kernel_rfl) (by kernel_rfl) (fun _ _ _ h => h) (Or.inl ⟨by rfl, fun w' h => by go_simp⟩) hS0 ?_
  have HZ := HZ0
  clear HZ0 hS0
  generalize w.drew = W0 at HZ ⊢
  refine LateAny.ready (rs := [1, 7]) (by kernel_rfl) (by simp) ?_
  refine LateReady.cons rfl (fun K hK => ?_) ?_
  · go_simp
    have HZ' := Lib.hid (HZ.out.step1)
    refine hK.out _ _ (fun _ => HSz.out _ (HLOW.out _ _ _ _ _ _ HZ'.out)) ?_
    clear hK K HZ
    have HZ := HZ'
    clear HZ'
    generalize hG1 : W0.heap.size = G1 at HZ ⊢
    generalize (World.alloc W0 _) = W1 at HZ ⊢
    clear hG1 W0
    refine LateAny.ready (rs := [3, 7]) (by kernel_rfl) (by simp) ?_
    refine LateReady.cons rfl (fun K hK => ?_) ?_
    · refine zz_step3 rfl (.tmp 5) (.tmp 6) rfl rfl rfl HZ.out (HSM.out _ (HLOW.out _ _ _ _ _ _ HZ.out)) hl0 hl2 ?_
      intro g c1 W2 hz'
      refine hK.out _ _ (fun _ => HSz.out _ (HLOW.out _ _ _ _ _ _ hz')) ?_
      clear hK K HZ
      have HZ := Lib.hid hz'
      clear hz' W1
      refine LateAny.ready (rs := [4, 7]) (by kernel_rfl) (by simp) ?_
      refine LateReady.cons rfl (fun K hK => ?_) ?_
      · go_simp
        have HZ' := Lib.hid (HZ.out.step4)
        refine hK.out _ _ (fun _ => HSz.out _ (HLOW.out _ _ _ _ _ _ HZ'.out)) ?_
        clear hK K HZ
        have HZ := HZ'
        clear HZ'
        generalize hG4 : W2.heap.size = G4 at HZ ⊢
        generalize (World.alloc W2 _) = W3 at HZ ⊢
        clear hG4 W2
        refine LateAny.ready (rs := [5, 7]) (by kernel_rfl) (by simp) ?_
        refine LateReady.cons rfl (fun K hK => ?_) ?_
        · refine zz_step5 rfl (.tmp 4) (.tmp 8) rfl rfl rfl HZ.out (HB.out.rowT HZ.out) HT.out hbase hfew ?_
          intro g' c' W4 hz'
          refine hK.out _ _ (fun _ => HSz.out _ (HLOW.out _ _ _ _ _ _ hz')) ?_
          clear hK K HZ
          have HZ := Lib.hid hz'
          clear hz' W3
          refine LateAny.ready (rs := [7]) (by kernel_rfl) (by simp) ?_
          refine LateReady.cons rfl (fun K hK => ?_) ?_
          · go_simp
            have HZ' := Lib.hid (HZ.out.step7)
            refine hK.out _ _ (fun _ => HSz.out _ (HLOW.out _ _ _ _ _ _ HZ'.out)) ?_
            clear hK K HZ
            have HZ := HZ'
            clear HZ'
            generalize hG7 : W4.heap.size = G7 at HZ ⊢
            generalize (World.alloc W4 _) = W5 at HZ ⊢
            clear hG7 W4
            refine LateAny.ready (rs := [8]) (by kernel_rfl) (by simp) ?_
            refine LateReady.cons rfl (fun K hK => ?_) LateReady.nil
            refine zz_step8 rfl (.tmp 10) (.tmp 11) rfl rfl rfl HZ.out (HB.out.rowW HZ.out) hbase hfew ?_
            intro g2 c2 w8 hg8 ho8 hat8
            have h8 := HB.out.low8 hbase HZ.out hg8
            have hE := Lib.hid (HEND.out _ _ _ _ _ _ _ _ _ HZ.out hg8 ho8 hat8)
            have hS8 := HSz.out _ h8
            have hF8 := HFz.out _ h8
            refine hK.out _ _ (fun _ => hS8) ?_
            clear hK K
            clear h8 hg8 ho8 hat8
            obtain ⟨hS8a, hS8b⟩ := hS8
            obtain ⟨hF8a, hF8b⟩ := hF8
            refine LateAny.ready (rs := [9]) (by kernel_rfl) (by simp) ?_
            refine LateReady.cons rfl (fun K hK => ?_) LateReady.nil
            go_simp
            refine hK.out _ _ (fun h => by cases h) ?_
            clear hK K
            have hS9 : (w8.setCell ⟨b4, 0, none⟩ (.slice (some ⟨g', 0, none⟩) (st.length + 1) c')).cell? ⟨b5, 0, none⟩ = some vW := by rw [cell_set_ne (by omega)]; exact hS8b
            refine LateAny.ready (rs := [10]) (by kernel_rfl) (by simp) ?_
            refine LateReady.cons rfl (fun K hK => ?_) LateReady.nil
            go_simp
            refine hK.out _ _ (fun h => by cases h) ?_
            clear hK K
            refine LateAny.done (by kernel_rfl) ?_ _
            go_end0
            exact ⟨rfl, hE.out.1, hE.out.2⟩
          exact LateReady.nil
        refine LateReady.cons rfl (fun K hK => ?_) ?_
        · go_simp
          have HZ' := Lib.hid (HZ.out.step7)
          refine hK.out _ _ (fun _ => HSz.out _ (HLOW.out _ _ _ _ _ _ HZ'.out)) ?_
          clear hK K HZ
          have HZ := HZ'
          clear HZ'
          generalize hG7 : W3.heap.size = G7 at HZ ⊢
          generalize (World.alloc W3 _) = W4 at HZ ⊢
          clear hG7 W3
          refine LateAny.ready (rs := [5]) (by kernel_rfl) (by simp) ?_
          refine LateReady.cons rfl (fun K hK => ?_) ?_
          · refine zz_step5 rfl (.tmp 4) (.tmp 8) rfl rfl rfl HZ.out (HB.out.rowT HZ.out) HT.out hbase hfew ?_
            intro g' c' W5 hz'
            refine hK.out _ _ (fun _ => HSz.out _ (HLOW.out _ _ _ _ _ _ hz')) ?_
            clear hK K HZ
            have HZ := Lib.hid hz'
            clear hz' W4
            refine LateAny.ready (rs := [8]) (by kernel_rfl) (by simp) ?_
            refine LateReady.cons rfl (fun K hK => ?_) LateReady.nil
            refine zz_step8 rfl (.tmp 10) (.tmp 11) rfl rfl rfl HZ.out (HB.out.rowW HZ.out) hbase hfew ?_
            intro g2 c2 w8 hg8 ho8 hat8
            have h8 := HB.out.low8 hbase HZ.out hg8
            have hE := Lib.hid (HEND.out _ _ _ _ _ _ _ _ _ HZ.out hg8 ho8 hat8)
            have hS8 := HSz.out _ h8
            have hF8 := HFz.out _ h8
            refine hK.out _ _ (fun _ => hS8) ?_
            clear hK K
            clear h8 hg8 ho8 hat8
            obtain ⟨hS8a, hS8b⟩ := hS8
            obtain ⟨hF8a, hF8b⟩ := hF8
            refine LateAny.ready (rs := [9]) (by kernel_rfl) (by simp) ?_
            refine LateReady.cons rfl (fun K hK => ?_) LateReady.nil
            go_simp
            refine hK.out _ _ (fun h => by cases h) ?_
            clear hK K
            have hS9 : (w8.setCell ⟨b4, 0, none⟩ (.slice (some ⟨g', 0, none⟩) (st.length + 1) c')).cell? ⟨b5, 0, none⟩ = some vW := by rw [cell_set_ne (by omega)]; exact hS8b
            refine LateAny.ready (rs := [10]) (by kernel_rfl) (by simp) ?_
            refine LateReady.cons rfl (fun K hK => ?_) LateReady.nil
            go_simp
            refine hK.out _ _ (fun h => by cases h) ?_
            clear hK K
            refine LateAny.done (by kernel_rfl) ?_ _
            go_end0
            exact ⟨rfl, hE.out.1, hE.out.2⟩
          exact LateReady.nil
        exact LateReady.nil
      refine LateReady.cons rfl (fun K hK => ?_) ?_
      · go_simp
        have HZ' := Lib.hid (HZ.out.step7)
        refine hK.out _ _ (fun _ => HSz.out _ (HLOW.out _ _ _ _ _ _ HZ'.out)) ?_
        clear hK K HZ
        have HZ := HZ'
        clear HZ'
        generalize hG7 : W2.heap.size = G7 at HZ ⊢
        generalize (World.alloc W2 _) = W3 at HZ ⊢
        clear hG7 W2
        refine LateAny.ready (rs := [4]) (by kernel_rfl) (by simp) ?_
        refine LateReady.cons rfl (fun K hK => ?_) ?_
        · go_simp
          have HZ' := Lib.hid (HZ.out.step4)
          refine hK.out _ _ (fun _ => HSz.out _ (HLOW.out _ _ _ _ _ _ HZ'.out)) ?_
          clear hK K HZ
          have HZ := HZ'
          clear HZ'
          generalize hG4 : W3.heap.size = G4 at HZ ⊢
          generalize (World.alloc W3 _) = W4 at HZ ⊢
          clear hG4 W3
          refine LateAny.ready (rs := [5]) (by kernel_rfl) (by simp) ?_
          refine LateReady.cons rfl (fun K hK => ?_) ?_
          · refine zz_step5 rfl (.tmp 4) (.tmp 8) rfl rfl rfl HZ.out (HB.out.rowT HZ.out) HT.out hbase hfew ?_
            intro g' c' W5 hz'
            refine hK.out _ _ (fun _ => HSz.out _ (HLOW.out _ _ _ _ _ _ hz')) ?_
            clear hK K HZ
            have HZ := Lib.hid hz'
            clear hz' W4
            refine LateAny.ready (rs := [8]) (by kernel_rfl) (by simp) ?_
            refine LateReady.cons rfl (fun K hK => ?_) LateReady.nil
            refine zz_step8 rfl (.tmp 10) (.tmp 11) rfl rfl rfl HZ.out (HB.out.rowW HZ.out) hbase hfew ?_
            intro g2 c2 w8 hg8 ho8 hat8
            have h8 := HB.out.low8 hbase HZ.out hg8
            have hE := Lib.hid (HEND.out _ _ _ _ _ _ _ _ _ HZ.out hg8 ho8 hat8)
            have hS8 := HSz.out _ h8
            have hF8 := HFz.out _ h8
            refine hK.out _ _ (fun _ => hS8) ?_
            clear hK K
            clear h8 hg8 ho8 hat8
            obtain ⟨hS8a, hS8b⟩ := hS8
            obtain ⟨hF8a, hF8b⟩ := hF8
            refine LateAny.ready (rs := [9]) (by kernel_rfl) (by simp) ?_
            refine LateReady.cons rfl (fun K hK => ?_) LateReady.nil
            go_simp
            refine hK.out _ _ (fun h => by cases h) ?_
            clear hK K
            have hS9 : (w8.setCell ⟨b4, 0, none⟩ (.slice (some ⟨g', 0, none⟩) (st.length + 1) c')).cell? ⟨b5, 0, none⟩ = some vW := by rw [cell_set_ne (by omega)]; exact hS8b
            refine LateAny.ready (rs := [10]) (by kernel_rfl) (by simp) ?_
            refine LateReady.cons rfl (fun K hK => ?_) LateReady.nil
            go_simp
            refine hK.out _ _ (fun h => by cases h) ?_
            clear hK K
            refine LateAny.done (by kernel_rfl) ?_ _
            go_end0
            exact ⟨rfl, hE.out.1, hE.out.2⟩
          exact LateReady.nil
        exact LateReady.nil
      exact LateReady.nil
    refine LateReady.cons rfl (fun K hK => ?_) ?_
    · go_simp
      have HZ' := Lib.hid (HZ.out.step7)
      refine hK.out _ _ (fun _ => HSz.out _ (HLOW.out _ _ _ _ _ _ HZ'.out)) ?_
      clear hK K HZ
      have HZ := HZ'
      clear HZ'
      generalize hG7 : W1.heap.size = G7 at HZ ⊢
      generalize (World.alloc W1 _) = W2 at HZ ⊢
      clear hG7 W1
      refine LateAny.ready (rs := [3]) (by kernel_rfl) (by simp) ?_
      refine LateReady.cons rfl (fun K hK => ?_) ?_
      · refine zz_step3 rfl (.tmp 5) (.tmp 6) rfl rfl rfl HZ.out (HSM.out _ (HLOW.out _ _ _ _ _ _ HZ.out)) hl0 hl2 ?_
        intro g c1 W3 hz'
        refine hK.out _ _ (fun _ => HSz.out _ (HLOW.out _ _ _ _ _ _ hz')) ?_
        clear hK K HZ
        have HZ := Lib.hid hz'
        clear hz' W2
        refine LateAny.ready (rs := [4]) (by kernel_rfl) (by simp) ?_
        refine LateReady.cons rfl (fun K hK => ?_) ?_
        · go_simp
          have HZ' := Lib.hid (HZ.out.step4)
          refine hK.out _ _ (fun _ => HSz.out _ (HLOW.out _ _ _ _ _ _ HZ'.out)) ?_
          clear hK K HZ
          have HZ := HZ'
          clear HZ'
          generalize hG4 : W3.heap.size = G4 at HZ ⊢
          generalize (World.alloc W3 _) = W4 at HZ ⊢
          clear hG4 W3
          refine LateAny.ready (rs := [5]) (by kernel_rfl) (by simp) ?_
          refine LateReady.cons rfl (fun K hK => ?_) ?_
          · refine zz_step5 rfl (.tmp 4) (.tmp 8) rfl rfl rfl HZ.out (HB.out.rowT HZ.out) HT.out hbase hfew ?_
            intro g' c' W5 hz'
            refine hK.out _ _ (fun _ => HSz.out _ (HLOW.out _ _ _ _ _ _ hz')) ?_
            clear hK K HZ
            have HZ := Lib.hid hz'
            clear hz' W4
            refine LateAny.ready (rs := [8]) (by kernel_rfl) (by simp) ?_
            refine LateReady.cons rfl (fun K hK => ?_) LateReady.nil
            refine zz_step8 rfl (.tmp 10) (.tmp 11) rfl rfl rfl HZ.out (HB.out.rowW HZ.out) hbase hfew ?_
            intro g2 c2 w8 hg8 ho8 hat8
            have h8 := HB.out.low8 hbase HZ.out hg8
            have hE := Lib.hid (HEND.out _ _ _ _ _ _ _ _ _ HZ.out hg8 ho8 hat8)
            have hS8 := HSz.out _ h8
            have hF8 := HFz.out _ h8
            refine hK.out _ _ (fun _ => hS8) ?_
            clear hK K
            clear h8 hg8 ho8 hat8
            obtain ⟨hS8a, hS8b⟩ := hS8
            obtain ⟨hF8a, hF8b⟩ := hF8
            refine LateAny.ready (rs := [9]) (by kernel_rfl) (by simp) ?_
            refine LateReady.cons rfl (fun K hK => ?_) LateReady.nil
            go_simp
            refine hK.out _ _ (fun h => by cases h) ?_
            clear hK K
            have hS9 : (w8.setCell ⟨b4, 0, none⟩ (.slice (some ⟨g', 0, none⟩) (st.length + 1) c')).cell? ⟨b5, 0, none⟩ = some vW := by rw [cell_set_ne (by omega)]; exact hS8b
            refine LateAny.ready (rs := [10]) (by kernel_rfl) (by simp) ?_
            refine LateReady.cons rfl (fun K hK => ?_) LateReady.nil
            go_simp
            refine hK.out _ _ (fun h => by cases h) ?_
            clear hK K
            refine LateAny.done (by kernel_rfl) ?_ _
            go_end0
            exact ⟨rfl, hE.out.1, hE.out.2⟩
          exact LateReady.nil
        exact LateReady.nil
      exact LateReady.nil
    exact LateReady.nil
  refine LateReady.cons rfl (fun K hK => ?_) ?_
  · go_simp
    have HZ' := Lib.hid (HZ.out.step7)
    refine hK.out _ _ (fun _ => HSz.out _ (HLOW.out _ _ _ _ _ _ HZ'.out)) ?_
    clear hK K HZ
    have HZ := HZ'
    clear HZ'
    generalize hG7 : W0.heap.size = G7 at HZ ⊢
    generalize (World.alloc W0 _) = W1 at HZ ⊢
    clear hG7 W0
    refine LateAny.ready (rs := [1]) (by kernel_rfl) (by simp) ?_
    refine LateReady.cons rfl (fun K hK => ?_) ?_
    · go_simp
      have HZ' := Lib.hid (HZ.out.step1)
      refine hK.out _ _ (fun _ => HSz.out _ (HLOW.out _ _ _ _ _ _ HZ'.out)) ?_
      clear hK K HZ
      have HZ := HZ'
      clear HZ'
      generalize hG1 : W1.heap.size = G1 at HZ ⊢
      generalize (World.alloc W1 _) = W2 at HZ ⊢
      clear hG1 W1
      refine LateAny.ready (rs := [3]) (by kernel_rfl) (by simp) ?_
      refine LateReady.cons rfl (fun K hK => ?_) ?_
      · refine zz_step3 rfl (.tmp 5) (.tmp 6) rfl rfl rfl HZ.out (HSM.out _ (HLOW.out _ _ _ _ _ _ HZ.out)) hl0 hl2 ?_
        intro g c1 W3 hz'
        refine hK.out _ _ (fun _ => HSz.out _ (HLOW.out _ _ _ _ _ _ hz')) ?_
        clear hK K HZ
        have HZ := Lib.hid hz'
        clear hz' W2
        refine LateAny.ready (rs := [4]) (by kernel_rfl) (by simp) ?_
        refine LateReady.cons rfl (fun K hK => ?_) ?_
        · go_simp
          have HZ' := Lib.hid (HZ.out.step4)
          refine hK.out _ _ (fun _ => HSz.out _ (HLOW.out _ _ _ _ _ _ HZ'.out)) ?_
          clear hK K HZ
          have HZ := HZ'
          clear HZ'
          generalize hG4 : W3.heap.size = G4 at HZ ⊢
          generalize (World.alloc W3 _) = W4 at HZ ⊢
          clear hG4 W3
          refine LateAny.ready (rs := [5]) (by kernel_rfl) (by simp) ?_
          refine LateReady.cons rfl (fun K hK => ?_) ?_
          · refine zz_step5 rfl (.tmp 4) (.tmp 8) rfl rfl rfl HZ.out (HB.out.rowT HZ.out) HT.out hbase hfew ?_
            intro g' c' W5 hz'
            refine hK.out _ _ (fun _ => HSz.out _ (HLOW.out _ _ _ _ _ _ hz')) ?_
            clear hK K HZ
            have HZ := Lib.hid hz'
            clear hz' W4
            refine LateAny.ready (rs := [8]) (by kernel_rfl) (by simp) ?_
            refine LateReady.cons rfl (fun K hK => ?_) LateReady.nil
            refine zz_step8 rfl (.tmp 10) (.tmp 11) rfl rfl rfl HZ.out (HB.out.rowW HZ.out) hbase hfew ?_
            intro g2 c2 w8 hg8 ho8 hat8
            have h8 := HB.out.low8 hbase HZ.out hg8
            have hE := Lib.hid (HEND.out _ _ _ _ _ _ _ _ _ HZ.out hg8 ho8 hat8)
            have hS8 := HSz.out _ h8
            have hF8 := HFz.out _ h8
            refine hK.out _ _ (fun _ => hS8) ?_
            clear hK K
            clear h8 hg8 ho8 hat8
            obtain ⟨hS8a, hS8b⟩ := hS8
            obtain ⟨hF8a, hF8b⟩ := hF8
            refine LateAny.ready (rs := [9]) (by kernel_rfl) (by simp) ?_
            refine LateReady.cons rfl (fun K hK => ?_) LateReady.nil
            go_simp
            refine hK.out _ _ (fun h => by cases h) ?_
            clear hK K
            have hS9 : (w8.setCell ⟨b4, 0, none⟩ (.slice (some ⟨g', 0, none⟩) (st.length + 1) c')).cell? ⟨b5, 0, none⟩ = some vW := by rw [cell_set_ne (by omega)]; exact hS8b
            refine LateAny.ready (rs := [10]) (by kernel_rfl) (by simp) ?_
            refine LateReady.cons rfl (fun K hK => ?_) LateReady.nil
            go_simp
            refine hK.out _ _ (fun h => by cases h) ?_
            clear hK K
            refine LateAny.done (by kernel_rfl) ?_ _
            go_end0
            exact ⟨rfl, hE.out.1, hE.out.2⟩
          exact LateReady.nil
        exact LateReady.nil
      exact LateReady.nil
    exact LateReady.nil
  exact LateReady.nil

end Go.Proofs.YtdljobmhnnegiaaDoor
