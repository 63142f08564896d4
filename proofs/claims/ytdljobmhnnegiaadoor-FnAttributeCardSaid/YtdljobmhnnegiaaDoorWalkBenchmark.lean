/- The walk of the law FnBenchmark. -/
import Derived.Test.YtdljobmhnnegiaaDoorSpecBench
namespace Go.Proofs.YtdljobmhnnegiaaDoor
open Go.RowKit

def Yes (w : World) (e : Ending) (w' : World) : Prop := e = .returned (.bool true) ∧ Below w.heap.size w w'

/-- BenchmarkA -/
def benchA : List UInt8 := [66, 101, 110, 99, 104, 109, 97, 114, 107, 65]
theorem benchA_yes : benchB benchA = true := by
  rw [specB_eq benchA (by decide)]
  decide

/-- impl.Benchmark of BenchmarkA, the bytes in a block of their own. -/
theorem bench_A (w : World) (hG : G4 w) (C : Array Value) (fr : Nat × Nat) (hC : C.toList = vals benchA) (g : Nat) (hg : g = w.heap.size) :
    Calls Tryd.prog 14 #[.slice (some ⟨g, 0, none⟩) 10 10] (w.alloc (.cells C 5 fr)) (BoolPost (w.alloc (.cells C 5 fr)) true) := by
  subst hg
  have := ibench_any (hG.below ((Below.refl _ _).alloc (Nat.le_refl _) (.cells C 5 fr))) (rd_const w benchA C fr hC) 10 10 rfl (Nat.le_refl _) (by omega)
  rw [benchA_yes] at this
  exact this

set_option maxRecDepth 100000 in
set_option maxHeartbeats 1000000 in
theorem walk_benchmark (a0 : ByteArray) (w : World) (hG : G4 w) :
    Calls Tryd.prog 3 #[.string a0] w (Yes w) := by
  have HG := Lib.hid hG
  clear hG
  by_cases hbig : 2147483647 < a0.size
  · go_enter Tryd.func3, Tryd.ntmps3
    go_wp2
    go_ret
    exact ⟨rfl, Below.refl _ _⟩
  · have kc := fun (w : World) (C : Array Value) (n c : Nat) => Lib.run_convert_bytes_const (P := Tryd.prog) w 23 5 C n c Tryd.underlying23 Tryd.underlying5
    go_enter Tryd.func3, Tryd.ntmps3
    go_wp2
    go_loop [9] (fun v9 => ∃ i : Nat, i ≤ a0.size ∧ v9 = .int .i64 i ∧ Hid (∀ c ∈ a0.data.toList.take i, c.toNat < 128)) (fun i => a0.size - (intOf i).toNat)
    case atStart => exact ⟨0, Nat.zero_le _, rfl, fun c hc => by simp at hc⟩
    case round =>
      obtain ⟨i, hi, rfl, HA⟩ := hrel
      by_cases hlt : i < a0.size
      · obtain ⟨m, hm⟩ : ∃ m, m = (a0[i]'hlt).toNat := ⟨_, rfl⟩
        have hms : ((a0[i]'hlt).toNat : Int) = (m : Int) := by rw [hm]
        have HM := Lib.hid hm
        clear hm
        by_cases h128 : m < 128
        · go_wp2
          go_round
          case rel =>
            refine ⟨i + 1, by omega, by go_num, ?_⟩
            intro c hc
            rw [List.take_succ_eq_append_getElem (by simpa using hlt), List.mem_append] at hc
            rcases hc with hc | hc
            · exact HA.out c hc
            · have := List.mem_singleton.1 hc
              subst this
              have e : a0.data.toList[i]'(by simpa using hlt) = a0[i]'hlt := rfl
              rw [e, ← HM.out]; exact h128
          case measure => simp [intOf]; omega
        · go_wp2_with (go_at_call 14; refine (bench_A _ HG.out _ _ rfl _ rfl).mono ?_; rintro e w1 ⟨rfl, hb1⟩)
          go_ret
          exact ⟨rfl, ((Below.refl _ _).alloc (Nat.le_refl _) _).trans (hb1.mono (by simp))⟩
      · have HS : Hid (benchB a0.data.toList = specB a0.data.toList) := specB_eq _ (by
          have := HA.out
          rwa [List.take_of_length_le (by simp; omega)] at this)
        have hconv := fun (w : World) => run_bytes_of_string (P := Tryd.prog) w 9 23 5 a0 Tryd.underlying9 Tryd.underlying23 Tryd.underlying5
        obtain ⟨b, hb⟩ : ∃ b, specB a0.data.toList = b := ⟨_, rfl⟩
        have HX : Hid (∀ cap fr, a0.size ≤ cap → Calls Tryd.prog 14 #[.slice (some ⟨w.heap.size, 0, none⟩) a0.size cap] (w.alloc (.cells (bytesRow a0 cap) 5 fr)).drew (BoolPost (w.alloc (.cells (bytesRow a0 cap) 5 fr)).drew b)) := by
          intro cap fr hge
          have := ibench_any ((HG.out.below (Below.refl _ w).drew).below ((Below.refl _ _).alloc (Nat.le_refl _) (.cells (bytesRow a0 cap) 5 fr))) (rd_bytes a0 w.drew cap fr) a0.size cap (by simp) hge (by omega)
          rw [HS.out, hb] at this
          exact this
        have HY : Hid (∀ w, Calls Tryd.prog 15 #[.string a0] w fun e w' => e = .returned (.bool b) ∧ w = w') := by
          intro w
          have := specBench_any a0 w (by omega)
          rw [hb] at this
          exact this
        have HZ : Hid (∀ (w1 : World), G4 w1 → ∀ (C : Array Value) fr, C.toList = vals benchA → Calls Tryd.prog 14 #[.slice (some ⟨w1.heap.size, 0, none⟩) 10 10] (w1.alloc (.cells C 5 fr)) (BoolPost (w1.alloc (.cells C 5 fr)) true)) :=
          fun w1 h1 C fr hC => bench_A w1 h1 C fr hC _ rfl
        clear hb
        cases b
        all_goals
          go_wp2_with fail
          refine (HX.out _ _ (grownCap_ge _ _ _ _)).mono ?_
          rintro e w1 ⟨rfl, hb1⟩
          have HB1 := Lib.hid hb1
          clear hb1
          go_wp2_with (go_at_call 15; refine (HY.out _).mono ?_; rintro e w' ⟨rfl, rfl⟩)
          refine (HZ.out _ ((HG.out.below (((Below.refl _ _).alloc (Nat.le_refl _) _).drew)).below HB1.out) _ _ rfl).mono ?_
          rintro e w2 ⟨rfl, hb2⟩
          have HB2 := Lib.hid hb2
          clear hb2
          go_wp2
          go_ret
          refine ⟨rfl, ?_⟩
          have h0 : Below w.heap.size w w1 := (((Below.refl _ _).alloc (Nat.le_refl _) _).drew).trans (HB1.out.mono (by simp))
          exact (h0.alloc h0.size _).trans (HB2.out.mono (by have := h0.size; simp; omega))

end Go.Proofs.YtdljobmhnnegiaaDoor
