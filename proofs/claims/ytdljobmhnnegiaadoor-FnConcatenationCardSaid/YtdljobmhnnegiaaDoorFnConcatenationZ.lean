/- The statement FnConcatenation: for every text and list of sizes the law returns true, and its arguments read as they did, the library's tables being as the program's text lays them. No other condition. -/
import Derived.Test.YtdljobmhnnegiaaDoorWalkCatZ
import Derived.Test.YtdljobmhnnegiaaDoorOpen
import Derived.Test.YtdljobmhnnegiaaDoorGlob5
import Derived.Test.YtdljobmhnnegiaaDoorTie
import Derived.Test.YtdljobmhnnegiaaDoorCards
import Derived.ProofKit
import Derived.OpenShut
import Derived.ShutString
import Derived.ChangeOld
import Derived.Lay
import Derived.SevenTiedAt
import Derived.Stop.LaidErr
namespace Go.Proofs.YtdljobmhnnegiaaDoor.fnConcatenation
open Go.ChangeShapes Go.WideShapes Go.ChangeAt Go.RowKit Go.Lib
open Go.ChangeMaps (open_string shut_string)
open Go.Proofs.YtdljobmhnnegiaaDoor
set_option linter.unusedVariables false

theorem own : ownKnob Tryd.prog.godebug = none := by kernel_rfl
theorem laidOut : laidOutB Tryd.prog = true := by kernel_rfl

set_option maxRecDepth 100000 in
theorem lifted (os : Os) (started : os.Started) (H : Type) (enc : TypeId × Value → H) :
    ReturnsInHanded {} Tryd.checked os 7 .any (fun w args => (Rows.fnConcatenationSpec.pre enc Tryd.prog Tryd.f7 Rows.fnConcatenationRow.domain false w args ∧ laidMetH Tryd.prog Rows.fnConcatenationRow.laid w) ∧ sizedMet enc Tryd.prog Tryd.f7 (OpenSpec.ofChange Rows.fnConcatenationSpec) false w args)
      (Rows.fnConcatenationSpec.post enc Tryd.prog Tryd.f7 false true false false) := by
  refine returnsInHanded_of_change_and (C := Tryd.checked) (X := fun w _ => laidMetH Tryd.prog Rows.fnConcatenationRow.laid w) (fun _ _ _ hh h => h.of_heap hh) own started (by kernel_rfl) Tryd.func7
    (ChangeSpec.witness_shaped (enc := enc) (C := Tryd.checked) (os := os) (X := fun w _ => laidMetH Tryd.prog Rows.fnConcatenationRow.laid w) false (World.laidAll Tryd.prog os Rows.fnConcatenationRow.laid) #[.string ByteArray.empty, .slice none 0 0] 8 (World.laidAll_os _ _ _)
      (World.shaped_of_ZipB (by kernel_rfl) (by kernel_rfl)) (by kernel_rfl) (by kernel_rfl) (by kernel_rfl)
      (by rw [MakeChecks.laidMetH_plain _ _ _ (by kernel_rfl)]; exact laidMet_laidAll _ (by kernel_rfl) (by kernel_rfl))) ?_
  intro W base args ds gs before hval0 hW _ _ hL _
  have hval : ∀ (j : Nat) t v, Tryd.f7.params[j]? = some t → args[j]? = some v → Value.okWide Tryd.prog W .any base t v := hval0
  have hW' := hW
  obtain ⟨p, q, hA0, hV, rfl, hfz, hnd⟩ := hW
  have hA : DataW.TrodAll enc Tryd.prog W 0 (fun _ => true) true Tryd.f7.params.toList args.toList ds p := hA0
  rw [Tryd.params7] at hA hval
  obtain ⟨v0, vs0, d0, ds0, p0, q0, hargs, rfl, rfl, h0, r0⟩ := trodAll_cons hA
  obtain ⟨v1, vs1, d1, ds1, p1, q1, rfl, rfl, rfl, h1, r1⟩ := trodAll_cons r0
  obtain ⟨rfl, rfl, rfl⟩ := trodAll_nil r1
  obtain rfl : args = #[v0, v1] := by cases args; simp_all
  obtain ⟨rfl, rfl⟩ := trodVars_none hV
  obtain ⟨a0, rfl, rfl, rfl, w0⟩ := open_string Tryd.underlying9 (hval 0 9 v0 rfl rfl) h0
  obtain ⟨a1, len1, cap1, rfl⟩ := okWide_slice Tryd.underlying25 (hval 1 25 v1 rfl rfl)
  have k1 := h1
  have lt1 : ∀ x ∈ p1, x.block < W.heap.size := by obtain ⟨m, hm⟩ := k1; exact DataW.trod_lt m _ _ _ hm
  obtain ⟨z1, w1⟩ : ∃ zs, IC W (.slice a1 len1 cap1) zs := by
    obtain ⟨fuel, hf⟩ := h1
    rcases open_ints Tryd.underlying25 Tryd.underlying3 (by kernel_rfl) hf with ⟨hcs, _⟩ | ⟨x, l, c, zs, hcs, _, hl, hm, hz, _, hcell, hwz⟩
    · simp [Value.cells] at hcs
      obtain ⟨rfl, rfl, rfl⟩ := hcs
      exact ⟨[], none, 0, rfl, Nat.le_refl _, fun i hi => by simp at hi⟩
    · simp [Value.cells] at hcs
      obtain ⟨rfl, rfl, rfl⟩ := hcs
      exact ⟨zs.take len1, ic_of_ints hl (by simpa using hz) hcell⟩
  clear hA0 hval0
  have hWW := hW'
  rw [MakeChecks.laidMetH_plain _ _ _ (by kernel_rfl)] at hL
  have hG : G5 W := by
    exact g5_of (laidMet.reads hL (.head _)) (laidMet.tail (laidMet.tail hL)) (laidMet.reads hL (.tail _ (.tail _ (.tail _ (.tail _ (.tail _ (.head _))))))) (laidMet.reads hL (.tail _ (.tail _ (.tail _ (.tail _ (.tail _ (.tail _ (.head _)))))))) (laidMet.tail (laidMet.tail (laidMet.tail hL))) (laidMet.reads hL (.tail _ (.head _)))
  refine (walk_cat a0 _ z1 W w1 hG).mono fun e W' ⟨he, bel⟩ => ?_
  subst he
  exact ⟨_, rfl, _, _, _, [], _, [], hW', (trodAll_cons_mk (shut_bool Tryd.underlying4 _) trodAll_mk0), (trodAll_cons_mk (shut_string Tryd.underlying9 w0) (trodAll_cons_mk (Below.trod laidOut (by kernel_rfl) (of_decide_eq_true (by kernel_rfl)) k1 bel lt1) trodAll_mk0)), rfl, bel.frame _, fun h => by cases h⟩

theorem over : Rows.FnConcatenationSaid :=
  OpenClaim.holds_of_wide 7 Tryd.f7 rfl rfl rfl rfl rfl rfl rfl ⟨rfl, rfl, rfl, rfl, rfl⟩ rfl rfl rfl rfl rfl (by kernel_rfl) Tryd.func7 (by kernel_rfl)
    (of_decide_eq_true (by kernel_rfl)) (by unfold Func.isWrapper; first | (rw [if_pos (by decide +kernel)]; kernel_rfl) | (rw [if_neg (by decide +kernel)]; exact ⟨rfl, rfl⟩))
    (fun os started H enc _ => lifted os started H enc)

/-- The statement. -/
theorem proved : Rows.FnConcatenationCardSaid :=
  Claim7.holds_tied_plain_at .later [] [.data, .listed, .data, .data, .pinned, .pinned, .pinned] true (true, "553e1614708e3d2d33e8b69b91f17bd92ea20aa8df0b2bcc6ac115786417f72c") false over (fun _ h => by cases h) (by kernel_rfl) (fun _ h => by cases h) fnConcatenation_row_tie rfl ⟨rfl, rfl⟩ (by kernel_rfl) rfl
    (fun f fn hf hfn => by
      obtain rfl : f = 7 := Option.some.inj ((show Tryd.prog.funcNamed "testevents/laws.FnConcatenation" = some 7 by kernel_rfl).symm.trans hf) |>.symm
      obtain rfl : fn = Tryd.f7 := (Option.some.inj (Tryd.func7.symm.trans hfn)).symm
      exact ⟨by kernel_rfl, fun j t ht => by
        rw [Tryd.params7] at ht
        have hm : t ∈ [9, 25] := by simpa using Array.mem_of_getElem? ht
        have hall : ([9, 25].all fun u => !Tryd.prog.wantsStandIn u) = true := by kernel_rfl
        exact (show Tryd.prog.wantsStandIn t = false by simpa using List.all_eq_true.1 hall t hm)⟩)
    (by kernel_rfl)
#print axioms proved
end Go.Proofs.YtdljobmhnnegiaaDoor.fnConcatenation
