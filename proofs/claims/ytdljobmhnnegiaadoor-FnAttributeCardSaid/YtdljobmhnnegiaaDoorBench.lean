/- The library's tables as the laws find them, and the contracts of isBenchmarkName and of impl.Benchmark: over any bytes in memory. -/
import Derived.Test.YtdljobmhnnegiaaDoorBytes
import Derived.Test.YtdljobmhnnegiaaDoorShelf
namespace Go.Proofs.YtdljobmhnnegiaaDoor
open Go.RowKit

/-- The library's tables that the names of benchmarks need. -/
structure G4 (w : World) : Prop where
  props : Lib.TabIs Tryd.prog w "unicode.properties" .u8 Lib.propertiesTab
  lower : Lib.RVar 1 Lib.lowerT w
  u8 : Lib.Utf8Tabs 3 4 w

theorem cellB {w w' : World} (hb : Below w.heap.size w w') {a : Addr} {v : Value} (hc : w.cell? a = some v) : w'.cell? a = some v := (hb.cell (World.block_lt_of_cell? w a hc)).trans hc
theorem props_at : Tryd.prog.globalNamed "unicode.properties" = some 0 := by kernel_rfl
theorem G4.below {w w' : World} (h : G4 w) (hb : Below w.heap.size w w') : G4 w' :=
  ⟨TabIs_below props_at h.props hb, RVar_below h.lower hb, ⟨fun c hc => cellB hb (h.u8.1 c hc), fun i hi => ⟨cellB hb (h.u8.2 i hi).1, cellB hb (h.u8.2 i hi).2⟩⟩⟩

/-- Benchmark. -/
def benchL : List UInt8 := [66, 101, 110, 99, 104, 109, 97, 114, 107]
/-- Whether the bytes are the name of a benchmark. -/
def benchB (l : List UInt8) : Bool := hasPre l benchL && (l.length == 9 || !Lib.isLowerU (Lib.decodeGo (S (l.drop 9))).1)

/-- A constant's bytes in their block. -/
theorem rd_const (w : World) (m : List UInt8) (C : Array Value) (fr : Nat × Nat) (hC : C.toList = vals m) : Rd (w.alloc (.cells C 5 fr)) w.heap.size 0 m :=
  Rd.of_block (heap_alloc_new _ _) (by rw [List.take_of_length_le (by rw [hC, vals_length]; exact Nat.le_refl _), hC])

theorem decode_le' (s : ByteArray) : (Lib.decodeGo s).1 ≤ 2147483647 := by
  unfold Lib.decodeGo
  split
  · decide
  · exact decode_le s 0

theorem hasPre_len (l m : List UInt8) (h : hasPre l m = true) : m.length ≤ l.length := by
  unfold hasPre at h
  rw [Bool.and_eq_true] at h
  exact of_decide_eq_true h.1

def BoolPost (w : World) (b : Bool) (e : Ending) (w' : World) : Prop := e = .returned (.bool b) ∧ Below w.heap.size w w'

set_option maxRecDepth 100000 in
set_option maxHeartbeats 400000 in
theorem bench_any {w : World} (hG : G4 w) {b off : Nat} {l : List UInt8} (h : Rd w b off l) (n c : Nat) (hn : n = l.length) (hc : n ≤ c) (hbig : n ≤ 140737488351232) :
    Calls Tryd.prog 47 #[.slice (some ⟨b, off, none⟩) n c] w (BoolPost w (benchB l)) := by
  have H := Lib.hid h
  have HN := Lib.hid hn
  have HG := Lib.hid hG
  clear h hn hG
  have kc := fun (w : World) (C : Array Value) (n c : Nat) => Lib.run_convert_bytes_const (P := Tryd.prog) w 23 5 C n c Tryd.underlying23 Tryd.underlying5
  have HB : Hid (∀ o, Below w.heap.size w (w.alloc o)) := fun o => (Below.refl _ _).alloc (Nat.le_refl _) o
  obtain ⟨p, hp⟩ : ∃ p, p = hasPre l benchL := ⟨_, rfl⟩
  have HP := Lib.hid hp
  have hpre := fun (w2 : World) (h1 : Rd w2 b off l) (b2 off2 : Nat) (h2 : Rd w2 b2 off2 benchL) (c2 : Nat) => hasPrefix_any h1 h2 n c 9 c2 HN.out rfl hc
  rw [← hp] at hpre
  have HPre := Lib.hid hpre
  clear hpre hp
  cases p with
  | false =>
    go_enter Tryd.func47, Tryd.ntmps47
    go_wp2_with (go_at_call 55; refine (HPre.out _ (H.out.grow (HB.out _)) _ _ (rd_const w benchL _ _ rfl) _).mono ?_; rintro e w' ⟨rfl, rfl⟩)
    go_ret
    exact ⟨by unfold benchB; rw [← HP.out]; rfl, HB.out _⟩
  | true =>
    by_cases h9 : n = 9
    · subst h9
      go_enter Tryd.func47, Tryd.ntmps47
      go_wp2_with (go_at_call 55; refine (HPre.out _ (H.out.grow (HB.out _)) _ _ (rd_const w benchL _ _ rfl) _).mono ?_; rintro e w' ⟨rfl, rfl⟩)
      go_ret
      exact ⟨by unfold benchB; rw [← HP.out, ← HN.out]; rfl, HB.out _⟩
    · have hlt : 9 < n := by
        have h1 := hasPre_len l benchL HP.out.symm
        have h2 : benchL.length = 9 := rfl
        have := HN.out
        omega
      have h9' : ((n : Int) == 9) = false := by simp; omega
      have HE : Hid (((n : Nat) == 9) = false) := by show _ = _; simp; omega
      obtain ⟨r, hr⟩ : ∃ r, r = (Lib.decodeGo (S (l.drop 9))).1 := ⟨_, rfl⟩
      have hrle : r ≤ 2147483647 := by rw [hr]; exact decode_le' _
      have HR := Lib.hid hr
      have hdec := fun (w2 : World) (h1 : Rd w2 b off l) (hg : G4 w2) (cap : Nat) => Tryd.utf8_DecodeRune (S (l.drop 9)) b (off + 9) cap w2 hg.u8 (fun j hj => by
        rw [S_size] at hj
        rw [(h1.drop 9) j hj]
        have hj' : j < (S (l.drop 9)).size := by rw [S_size]; exact hj
        have e1 : (S (l.drop 9)).get! j = (S (l.drop 9))[j]'hj' := by simpa using get_at (S (l.drop 9)) j hj'
        rw [e1, ← getD_at (S (l.drop 9)) j hj'])
      rw [S_size, List.length_drop, ← HN.out, ← hr] at hdec
      have HDec := Lib.hid hdec
      clear hdec hr h9
      go_enter Tryd.func47, Tryd.ntmps47
      go_wp2_with (first | (go_at_call 55; refine (HPre.out _ (H.out.grow (HB.out _)) _ _ (rd_const w benchL _ _ rfl) _).mono ?_; rintro e w' ⟨rfl, rfl⟩) | (go_at_call 56; refine (HDec.out _ (H.out.grow (HB.out _)) (HG.out.below (HB.out _)) _).mono ?_; rintro e w1 ⟨rfl, hb1⟩) | (go_at_call 57; refine (Tryd.unicode_IsLower_all (r : Int) _ (by omega) (by omega) ((HG.out.below (HB.out _)).below hb1).props ((HG.out.below (HB.out _)).below hb1).lower).mono ?_; rintro e w2 ⟨rfl, hb2⟩))
      go_ret
      refine ⟨?_, ?_⟩
      · unfold benchB; rw [← HP.out, ← HN.out, HE.out, ← HR.out]; rfl
      · exact (HB.out _).trans ((hb1.mono (HB.out _).size).trans (hb2.mono (Nat.le_trans (HB.out _).size hb1.size)))

set_option maxRecDepth 100000 in
set_option maxHeartbeats 400000 in
theorem zzbench_any {w : World} (hG : G4 w) {b off : Nat} {l : List UInt8} (h : Rd w b off l) (n c : Nat) (hn : n = l.length) (hc : n ≤ c) (hbig : n ≤ 140737488351232) :
    Calls Tryd.prog 33 #[.slice (some ⟨b, off, none⟩) n c] w (BoolPost w (benchB l)) := by
  have HX := Lib.hid (bench_any hG h n c hn hc hbig)
  clear h hn hG
  go_enter Tryd.func33, Tryd.ntmps33
  go_wp2_with (go_at_call 47; refine HX.out.mono ?_; rintro e w1 ⟨rfl, hb1⟩)
  go_ret
  exact ⟨rfl, hb1⟩
set_option maxRecDepth 100000 in
set_option maxHeartbeats 400000 in
theorem ibench_any {w : World} (hG : G4 w) {b off : Nat} {l : List UInt8} (h : Rd w b off l) (n c : Nat) (hn : n = l.length) (hc : n ≤ c) (hbig : n ≤ 140737488351232) :
    Calls Tryd.prog 14 #[.slice (some ⟨b, off, none⟩) n c] w (BoolPost w (benchB l)) := by
  have HX := Lib.hid (zzbench_any hG h n c hn hc hbig)
  clear h hn hG
  go_enter Tryd.func14, Tryd.ntmps14
  go_wp2_with (go_at_call 33; refine HX.out.mono ?_; rintro e w1 ⟨rfl, hb1⟩)
  go_ret
  exact ⟨rfl, hb1⟩

end Go.Proofs.YtdljobmhnnegiaaDoor
