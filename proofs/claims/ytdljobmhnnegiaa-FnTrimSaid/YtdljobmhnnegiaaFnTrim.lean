/- The statement FnTrim: for every string the law returns true, and the string reads as it did. No condition. -/
import Derived.Test.YtdljobmhnnegiaaRows
import Derived.Test.YtdljobmhnnegiaaBegun
import Derived.ProofKit
import Derived.Lib.SlBytesConst
import Derived.OpenShut
import Derived.ShutString
namespace Go.Proofs.Ytdljobmhnnegiaa.fnTrim
open Go.ChangeShapes Go.WideShapes Go.ChangeAt Go.RowKit
open Go.ChangeMaps (open_string shut_string)
open Go.Proofs.Ytdljobmhnnegiaa
set_option linter.unusedVariables false

theorem own : ownKnob Try.prog.godebug = none := by kernel_rfl

def Yes (w : World) (e : Ending) (w' : World) : Prop := e = .returned (.bool true) ∧ Below w.heap.size w w'

/-- The cells of '[]byte(s)'. -/
theorem row_cells (s : ByteArray) (w : World) (cap : Nat) (fr : Nat × Nat) (j : Nat) (hj : j < s.data.toList.length) :
    (w.alloc (.cells (bytesRow s cap) 5 fr)).cell? ⟨w.heap.size, 0 + j, none⟩ = some (.int .u8 (s.data.toList.getD j 0).toNat) := by
  rw [Nat.zero_add, World.cell?_alloc_mark]
  have hj' : j < s.data.size := by simpa using hj
  rw [bytesRow_at s cap j hj', getD_at s j hj']
  rfl

theorem ab : trimU [97, 98] = 2 := by decide

set_option maxRecDepth 100000 in
set_option maxHeartbeats 800000 in
/-- impl.Trim of the bytes a, b. -/
theorem trim_ab (w : World) (C : Array Value) (fr : Nat × Nat) (hC : C = #[.int .u8 97, .int .u8 98]) (g : Nat) (hg : g = w.heap.size) :
    Calls Try.prog 5 #[.slice (some ⟨g, 0, none⟩) 2 2] (w.alloc (.cells C 5 fr)) fun e w' => e = .returned (.int .i64 2) ∧ w.alloc (.cells C 5 fr) = w' := by
  subst hg
  refine (itrim_any w.heap.size 0 2 [97, 98] (w.alloc (.cells C 5 fr)) 2 rfl (by omega) ?_).mono ?_
  · intro j hj
    rw [Nat.zero_add, World.cell?_alloc_mark, hC]
    match j, hj with
    | 0, _ => rfl
    | 1, _ => rfl
    | j + 2, hj => simp at hj; omega
  · rintro e w' ⟨rfl, h⟩
    exact ⟨by rw [ab]; rfl, h⟩

set_option maxRecDepth 100000 in
set_option maxHeartbeats 800000 in
theorem walk (a0 : ByteArray) (w0 : a0.size ≤ maxLen) (w : World) :
    Calls Try.prog 3 #[.string a0] w (Yes w) := by
  by_cases hbig : 2147483647 < a0.size
  · go_enter Try.func3, Try.ntmps3
    go_wp2
    go_ret
    exact ⟨rfl, Below.refl _ _⟩
  · go_enter Try.func3, Try.ntmps3
    go_wp2_with fail
    refine (begun_any a0 w (by omega)).mono ?_
    rintro e w1 ⟨b, rfl, hb, hbel⟩
    have HB := Lib.hid hb
    have HBel := Lib.hid hbel
    clear hb hbel
    have kc := fun (w : World) (C : Array Value) (n c : Nat) => Lib.run_convert_bytes_const (P := Try.prog) w 24 5 C n c Try.underlying24 Try.underlying5
    have hconv := fun (w : World) => run_bytes_of_string (P := Try.prog) w 9 24 5 a0 Try.underlying9 Try.underlying24 Try.underlying5
    cases b with
    | false =>
      go_wp2_with (go_at_call 5; refine (trim_ab _ _ _ rfl _ rfl).mono ?_; rintro e w' ⟨rfl, rfl⟩)
      go_ret
      exact ⟨rfl, HBel.out.alloc HBel.out.size _⟩
    | true =>
      have hcut : trimU a0.data.toList = cutU a0.data.toList := trim_cut _ (HB.out (by trivial))
      have HC := Lib.hid hcut
      clear hcut
      go_wp2_with fail
      have h5 := fun (wx : World) (cap : Nat) (hc : ∀ j, j < a0.data.toList.length → wx.cell? ⟨w1.heap.size, 0 + j, none⟩ = some (.int .u8 (a0.data.toList.getD j 0).toNat)) => itrim_any w1.heap.size 0 cap a0.data.toList wx a0.size (by simp) (by omega) hc
      refine (h5 _ _ (by exact row_cells a0 _ _ _)).mono ?_
      rw [HC.out]
      rintro e w' ⟨rfl, rfl⟩
      clear h5
      have kc2 : ∀ (w : World) (o : Obj) (C : Array Value) (n c : Nat), (convert 24 24 (.slice (some ⟨w.heap.size + 1, 0, none⟩) n c)).run Try.prog (((w.alloc o).alloc (.cells C 5)).drew) = .ok (.slice (some ⟨w.heap.size + 1, 0, none⟩) n c) (((w.alloc o).alloc (.cells C 5 (C.size, C.size + 1))).drew) :=
        fun w o C n c => by
          have := Lib.run_convert_bytes_const (P := Try.prog) ((w.alloc o).drew) 24 5 C n c Try.underlying24 Try.underlying5
          rw [show ((w.alloc o).drew).heap.size = w.heap.size + 1 by simp] at this
          exact this
      have h5 := fun (w : World) (o : Obj) => trim_ab ((w.alloc o).drew) #[.int .u8 97, .int .u8 98] (2, 3) rfl (w.heap.size + 1) (by simp)
      go_wp2_with (first | (go_at_call 6; refine (cut_any a0 _ (by omega)).mono ?_; rintro e w' ⟨rfl, rfl⟩) | (go_at_call 5; refine (h5 _ _).mono ?_; rintro e w' ⟨rfl, rfl⟩))
      go_ret
      exact ⟨rfl, ((HBel.out.drew.alloc HBel.out.size _).alloc (by have := HBel.out.size; simp; omega) _)⟩

set_option maxRecDepth 100000 in
theorem lifted (os : Os) (started : os.Started) (H : Type) (enc : TypeId × Value → H) :
    ReturnsInHanded {} Try.checked os 3 .any (Rows.fnTrimSpec.pre6 enc Try.prog Try.f3 Rows.fnTrimRow.domain false) (Rows.fnTrimSpec.post enc Try.prog Try.f3 false true false false) := by
  refine returnsInHanded_of_change (C := Try.checked) own started (by kernel_rfl) Try.func3
    (ChangeSpec.witness6 (enc := enc) (C := Try.checked) false ⟨#[], #[.string ByteArray.empty], []⟩ 8 (by kernel_rfl) (by kernel_rfl) (by kernel_rfl) (by kernel_rfl)) ?_
  intro W base args ds gs before hval0 hW hcnd _
  have hval : ∀ (j : Nat) t v, Try.f3.params[j]? = some t → args[j]? = some v → Value.okWide Try.prog W .any base t v := hval0
  have hW' := hW
  obtain ⟨p, q, hA0, hV, rfl, hfz, hnd⟩ := hW
  have hA : DataW.TrodAll enc Try.prog W 0 (fun _ => true) true Try.f3.params.toList args.toList ds p := hA0
  rw [Try.params3] at hA hval
  obtain ⟨v0, vs0, d0, ds0, p0, q0, hargs, rfl, rfl, h0, r0⟩ := trodAll_cons hA
  obtain ⟨rfl, rfl, rfl⟩ := trodAll_nil r0
  obtain rfl : args = #[v0] := by cases args; simp_all
  obtain ⟨rfl, rfl⟩ := trodVars_none hV
  obtain ⟨a0, rfl, rfl, rfl, w0⟩ := open_string Try.underlying9 (hval 0 9 v0 rfl rfl) h0
  clear hA0 hval0
  simp only [List.append_nil] at hW'
  refine (walk a0 w0 W).mono fun e W' ⟨he, hg⟩ => ?_
  subst he
  exact ⟨_, rfl, _, _, _, [], [], [], hW', (trodAll_cons_mk (shut_bool Try.underlying4 _) trodAll_mk0), (trodAll_cons_mk (shut_string Try.underlying9 w0) trodAll_mk0), rfl, hg.frame _, fun h => by cases h⟩

theorem over : Rows.fnTrimRow.holds Try.pinned (OpenSpec.ofChange Rows.fnTrimSpec) :=
  OpenClaim.holds_of_wide 3 Try.f3 rfl rfl rfl rfl rfl rfl rfl ⟨rfl, rfl, rfl, rfl, rfl⟩ rfl rfl rfl rfl rfl (by kernel_rfl) Try.func3 (by kernel_rfl)
    (of_decide_eq_true (by kernel_rfl)) (by unfold Func.isWrapper; first | (rw [if_pos (by decide +kernel)]; kernel_rfl) | (rw [if_neg (by decide +kernel)]; exact ⟨rfl, rfl⟩))
    (fun os started H enc _ => lifted os started H enc)

/-- The statement. -/
theorem proved : Rows.FnTrimSaid :=
  over
#print axioms proved
end Go.Proofs.Ytdljobmhnnegiaa.fnTrim
