/- Small lemmas on bytes in memory, and the contracts of bytes.Equal, HasPrefix, HasSuffix, Clone, IndexByte, TrimRight at a blank: over any bytes in memory. -/
import Derived.Test.YtdljobmhnnegiaaDoorProg
import Derived.WalkKit
import Derived.WalkSpells
import Derived.WalkLawsBesides
import Derived.KernelRfl
import Derived.Lib.Hide
import Derived.Lib.SlBytesConst
import Derived.Lib.BytesEntry
import Derived.BigQuiet
import Derived.Deep.QuietTactic
namespace Go.Proofs.YtdljobmhnnegiaaDoor
open Go.RowKit

theorem ret_int {k : IntKind} {a b : Int} (h : a = b) : Ending.returned (.int k a) = .returned (.int k b) := by rw [h]
theorem ret_bool {a b : Bool} (h : a = b) : Ending.returned (.bool a) = .returned (.bool b) := by rw [h]

/-- A text as a value. -/
abbrev S (l : List UInt8) : ByteArray := ⟨l.toArray⟩
theorem S_toList (l : List UInt8) : (S l).data.toList = l := rfl
theorem S_size (l : List UInt8) : (S l).size = l.length := by simp [ByteArray.size]
theorem S_of (s : ByteArray) : S s.data.toList = s := by cases s; simp

/-- The bytes l lie in memory from a place on. -/
def Rd (w : World) (b off : Nat) (l : List UInt8) : Prop := ∀ j, j < l.length → w.cell? ⟨b, off + j, none⟩ = some (.int .u8 (l.getD j 0).toNat)

theorem getD_at (s : ByteArray) (k : Nat) (h : k < s.size) : s.data.toList.getD k 0 = s[k]'h := by
  have h' : k < s.data.toList.length := by simpa using h
  rw [List.getD_eq_getElem?_getD, List.getElem?_eq_getElem h']; rfl

theorem Rd.nil (w : World) (b off : Nat) : Rd w b off [] := fun j hj => by simp at hj
theorem Rd.lt {w : World} {b off : Nat} {l : List UInt8} (h : Rd w b off l) (hl : 0 < l.length) : b < w.heap.size := by
  have := h 0 hl
  rcases Nat.lt_or_ge b w.heap.size with h1 | h1
  · exact h1
  · simp [World.cell?, Array.getElem?_eq_none h1] at this
theorem Rd.below {w w' : World} {b off B : Nat} {l : List UInt8} (h : Rd w b off l) (hb : Below B w w') (hB : b < B) : Rd w' b off l :=
  fun j hj => by rw [hb.cell (p := ⟨b, off + j, none⟩) hB]; exact h j hj
theorem Rd.grow {w w' : World} {b off : Nat} {l : List UInt8} (h : Rd w b off l) (hb : Below w.heap.size w w') : Rd w' b off l := by
  by_cases hl : 0 < l.length
  · exact h.below hb (h.lt hl)
  · intro j hj; omega
theorem Rd.drop {w : World} {b off : Nat} {l : List UInt8} (h : Rd w b off l) (k : Nat) : Rd w b (off + k) (l.drop k) := by
  intro j hj
  rw [List.length_drop] at hj
  have := h (k + j) (by omega)
  rw [Nat.add_assoc, this]
  simp [List.getD_eq_getElem?_getD]
theorem Rd.take {w : World} {b off : Nat} {l : List UInt8} (h : Rd w b off l) (k : Nat) : Rd w b off (l.take k) := by
  intro j hj
  rw [List.length_take] at hj
  rw [h j (by omega)]
  simp [List.getD_eq_getElem?_getD, show j < k by omega]

theorem toNum (l : List UInt8) : strOfNums (l.map fun c => ((c.toNat : Nat) : Int)) = S l := by
  unfold strOfNums S
  congr 1
  simp [List.map_map, Function.comp_def]
theorem getD_map (l : List UInt8) (j : Nat) (hj : j < l.length) : (l.map fun c => ((c.toNat : Nat) : Int)).getD j 0 = ((l.getD j 0).toNat : Int) := by
  simp [List.getD_eq_getElem?_getD, List.getElem?_map, List.getElem?_eq_getElem hj]

/-- string(b) of bytes in memory. -/
theorem conv_str {w : World} {b off : Nat} {l : List UInt8} (h : Rd w b off l) (n cap : Nat) (hn : n = l.length) :
    (convert 23 9 (.slice (some ⟨b, off, none⟩) n cap)).run Tryd.prog w = .ok (.string (S l)) w := by
  subst hn
  have := run_convert_bytes_arg (P := Tryd.prog) w 23 5 Tryd.underlying23 Tryd.underlying5 b off l.length cap (l.map fun c => ((c.toNat : Nat) : Int)) (by simp) (fun i hi => by rw [h i hi, getD_map l i hi]) 9 Tryd.underlying9
  rw [this, toNum]

theorem S_beq (l m : List UInt8) : ((S l).data.toList == (S m).data.toList) = (l == m) := rfl

set_option maxRecDepth 100000 in
set_option maxHeartbeats 400000 in
theorem equal_any {w : World} {b off b2 off2 : Nat} {l m : List UInt8} (h : Rd w b off l) (h2 : Rd w b2 off2 m) (n c n2 c2 : Nat) (hn : n = l.length) (hn2 : n2 = m.length) :
    Calls Tryd.prog 72 #[.slice (some ⟨b, off, none⟩) n c, .slice (some ⟨b2, off2, none⟩) n2 c2] w fun e w' => e = .returned (.bool (l == m)) ∧ w = w' := by
  have k1 := conv_str h n c hn
  have k2 := conv_str h2 n2 c2 hn2
  clear h h2 hn hn2
  go_enter Tryd.func72, Tryd.ntmps72
  go_wp2
  go_ret
  exact ⟨rfl, rfl⟩

/-- l begins with m. -/
def hasPre (l m : List UInt8) : Bool := decide (m.length ≤ l.length) && (l.take m.length == m)
/-- l ends with m. -/
def hasSuf (l m : List UInt8) : Bool := decide (m.length ≤ l.length) && (l.drop (l.length - m.length) == m)

set_option maxRecDepth 100000 in
set_option maxHeartbeats 400000 in
theorem hasPrefix_any {w : World} {b off b2 off2 : Nat} {l m : List UInt8} (h : Rd w b off l) (h2 : Rd w b2 off2 m) (n c n2 c2 : Nat) (hn : n = l.length) (hn2 : n2 = m.length) (hc : n ≤ c) :
    Calls Tryd.prog 55 #[.slice (some ⟨b, off, none⟩) n c, .slice (some ⟨b2, off2, none⟩) n2 c2] w fun e w' => e = .returned (.bool (hasPre l m)) ∧ w = w' := by
  have H2 := Lib.hid h2; have HN := Lib.hid hn; have HN2 := Lib.hid hn2; have H1 := Lib.hid h
  clear h h2 hn hn2
  by_cases hle : n2 ≤ n
  · have HE : Hid (n2 = (l.take n2).length) := by have := HN.out; show _ = _; rw [List.length_take]; omega
    go_enter Tryd.func55, Tryd.ntmps55
    go_wp2_with (go_at_call 72; refine (equal_any (l := l.take n2) (m := m) (H1.out.take n2) H2.out _ _ _ _ HE.out HN2.out).mono ?_; rintro e w' ⟨rfl, rfl⟩)
    go_ret
    refine ⟨ret_bool ?_, rfl⟩
    unfold hasPre
    rw [← HN.out, ← HN2.out]
    simp [hle]
  · go_enter Tryd.func55, Tryd.ntmps55
    go_wp2
    go_ret
    refine ⟨ret_bool ?_, rfl⟩
    unfold hasPre
    rw [← HN.out, ← HN2.out]
    simp [hle]

set_option maxRecDepth 100000 in
set_option maxHeartbeats 400000 in
theorem hasSuffix_any {w : World} {b off b2 off2 : Nat} {l m : List UInt8} (h : Rd w b off l) (h2 : Rd w b2 off2 m) (n c n2 c2 : Nat) (hn : n = l.length) (hn2 : n2 = m.length) (hc : n ≤ c) (hbig : n ≤ 140737488355328) :
    Calls Tryd.prog 64 #[.slice (some ⟨b, off, none⟩) n c, .slice (some ⟨b2, off2, none⟩) n2 c2] w fun e w' => e = .returned (.bool (hasSuf l m)) ∧ w = w' := by
  have H2 := Lib.hid h2; have HN := Lib.hid hn; have HN2 := Lib.hid hn2; have H1 := Lib.hid h
  clear h h2 hn hn2
  by_cases hle : n2 ≤ n
  · have e1 : ((n : Int) - (n2 : Int)) = ((n - n2 : Nat) : Int) := by omega
    by_cases hcap : c = n - n2
    · have HE : Hid (c - (n - n2) = (l.drop (n - n2)).length ∧ n - (n - n2) = (l.drop (n - n2)).length ∧ l.drop (n - n2) = []) := by
        have := HN.out
        refine ⟨by rw [List.length_drop]; omega, by rw [List.length_drop]; omega, List.drop_eq_nil_of_le (by omega)⟩
      go_enter Tryd.func64, Tryd.ntmps64
      go_wp2_with (go_at_call 72; refine (equal_any (l := l.drop (n - n2)) (m := m) (by rw [HE.out.2.2]; exact Rd.nil _ _ _) H2.out _ _ _ _ (by rw [← HE.out.1]; omega) HN2.out).mono ?_; rintro e w' ⟨rfl, rfl⟩)
      go_ret
      refine ⟨ret_bool ?_, rfl⟩
      unfold hasSuf
      rw [← HN.out, ← HN2.out]
      simp [hle]
    · have HE : Hid (n - (n - n2) = (l.drop (n - n2)).length) := by have := HN.out; show _ = _; rw [List.length_drop]; omega
      go_enter Tryd.func64, Tryd.ntmps64
      go_wp2_with (go_at_call 72; refine (equal_any (l := l.drop (n - n2)) (m := m) (H1.out.drop (n - n2)) H2.out _ _ _ _ HE.out HN2.out).mono ?_; rintro e w' ⟨rfl, rfl⟩)
      go_ret
      refine ⟨ret_bool ?_, rfl⟩
      unfold hasSuf
      rw [← HN.out, ← HN2.out]
      simp [hle]
  · go_enter Tryd.func64, Tryd.ntmps64
    go_wp2
    go_ret
    refine ⟨ret_bool ?_, rfl⟩
    unfold hasSuf
    rw [← HN.out, ← HN2.out]
    simp [hle]

theorem info5 : (Tryd.prog.info? 5).map (fun i => (i.zero, i.size, i.bytes)) = some (some (.int .u8 0), 1, 1) := by kernel_rfl

/-- The bytes as values. -/
def vals (l : List UInt8) : List Value := l.map fun c => .int .u8 (c.toNat : Nat)
theorem vals_length (l : List UInt8) : (vals l).length = l.length := by simp [vals]
theorem Rd.vals {w : World} {b off : Nat} {l : List UInt8} (h : Rd w b off l) : ∀ j u, (vals l)[j]? = some u → w.cell? ((⟨b, off, none⟩ : Addr).add j) = some u := by
  intro j u hj
  have hjl : j < l.length := by
    have := (List.getElem?_eq_some_iff.1 hj).1
    rwa [vals_length] at this
  have e : (⟨b, off, none⟩ : Addr).add j = ⟨b, off + j, none⟩ := by unfold Addr.add; split <;> simp_all
  rw [e, h j hjl]
  simp [YtdljobmhnnegiaaDoor.vals, List.getElem?_map, List.getElem?_eq_getElem hjl] at hj
  rw [← hj]
  simp [List.getD_eq_getElem?_getD, List.getElem?_eq_getElem hjl]
theorem vals_one (l : List UInt8) : ∀ u ∈ vals l, u.oneCell' = true := by
  intro u hu
  simp [vals] at hu
  obtain ⟨c, _, rfl⟩ := hu
  rfl
/-- Bytes in a block. -/
theorem Rd.of_block {w : World} {g : Nat} {cs : Array Value} {t : TypeId} {fr : Nat × Nat} {l : List UInt8} (hb : w.heap[g]? = some (.cells cs t fr)) (h : cs.toList.take l.length = YtdljobmhnnegiaaDoor.vals l) : Rd w g 0 l := by
  intro j hj
  rw [Nat.zero_add]
  simp only [World.cell?, hb]
  have : (cs.toList.take l.length)[j]? = some (.int .u8 (l.getD j 0).toNat) := by
    rw [h]
    simp [YtdljobmhnnegiaaDoor.vals, List.getElem?_map, List.getElem?_eq_getElem hj, List.getD_eq_getElem?_getD]
  rw [List.getElem?_take, if_pos hj] at this
  simpa using this

/-- What Clone leaves: the same bytes in a new block. -/
def Cloned (w : World) (l : List UInt8) (v : Value) (w' : World) : Prop :=
  ∃ g cap cs, v = .slice (some ⟨g, 0, none⟩) l.length cap ∧ l.length ≤ cap ∧ w.heap.size ≤ g ∧ w'.heap[g]? = some (.cells cs 5 (0, 0)) ∧ cs.toList.take l.length = vals l ∧ Below w.heap.size w w'
def ClonePost (w : World) (l : List UInt8) (e : Ending) (w' : World) : Prop := ∃ v, e = .returned v ∧ Cloned w l v w'

set_option maxRecDepth 100000 in
set_option maxHeartbeats 400000 in
theorem clone_any {w : World} {b off : Nat} {l : List UInt8} (h : Rd w b off l) (n c : Nat) (hn : n = l.length) (hbig : n ≤ 140737488351232) :
    Calls Tryd.prog 39 #[.slice (some ⟨b, off, none⟩) n c] w (ClonePost w l) := by
  have H := Lib.hid h
  have HN := Lib.hid hn
  clear h hn
  obtain ⟨i0, hi, hz0, hz1, hz2⟩ := info_parts info5
  have hown : (w.alloc (.cells #[] 5)).ownsRow w.heap.size 5 1 (.slice (some ⟨w.heap.size, 0, none⟩) 0 0) 0 [] :=
    ⟨rfl, .inr ⟨w.heap.size, 0, #[], rfl, Nat.le_refl _, heap_alloc_new _ _, Nat.le_refl _, by unfold maxLen; omega, rfl, rfl⟩⟩
  have HO := Lib.hid hown
  clear hown
  have kn := fun (w : World) => Lib.run_eql_slice_nil (P := Tryd.prog) w 23 5 (some ⟨b, off, none⟩) n c 0 0 Tryd.underlying23
  go_enter Tryd.func39, Tryd.ntmps39
  go_wp2_with (at_builtin; refine wpList_append_own _ rfl _ _ 23 rfl w.heap.size 5 i0 (.int .u8 0) 1 1 Tryd.underlying23 hi hz0 hz1 hz2 rfl (by decide) _ _ _ rfl HO.out ⟨b, off, none⟩ n c (vals l) rfl (by rw [vals_length, HN.out]; omega) (H.out.grow ((Below.refl _ _).alloc (Nat.le_refl _) _)).vals (vals_one l) (by unfold maxLen; omega) (by omega) (by simp) ?_; intro v' w1 hown1 hgrow1 hnil1)
  go_ret
  refine ⟨v', rfl, ?_⟩
  have hb1 : Below w.heap.size w w1 := ((Below.refl _ _).alloc (Nat.le_refl _) _).grown hgrow1 (by simp) (fun k hk => by cases hk; exact Nat.le_refl _)
  rw [Nat.zero_add, List.nil_append] at hown1
  rcases hown1.2 with ⟨hv, _⟩ | ⟨g, cap, cur, hv, hg, hblk, hcap, _, _, htake⟩
  · have := (hnil1.1 hv).1
    cases this
  · rw [HN.out] at hv hcap htake
    exact ⟨g, cap, cur, hv, hcap, hg, hblk, by rw [Nat.mul_one] at htake; exact htake, hb1⟩

/-- The clone's bytes. -/
theorem Cloned.rd {w w' : World} {l : List UInt8} {v : Value} (h : Cloned w l v w') : ∃ g cap, v = .slice (some ⟨g, 0, none⟩) l.length cap ∧ l.length ≤ cap ∧ w.heap.size ≤ g ∧ Rd w' g 0 l ∧ Below w.heap.size w w' := by
  obtain ⟨g, cap, cs, hv, hc, hg, hb, ht, hbel⟩ := h
  exact ⟨g, cap, hv, hc, hg, Rd.of_block hb ht, hbel⟩

/-- The bytes that []byte(s) lays. -/
theorem rd_bytes (s : ByteArray) (w : World) (cap : Nat) (fr : Nat × Nat) : Rd (w.alloc (.cells (bytesRow s cap) 5 fr)) w.heap.size 0 s.data.toList := by
  intro j hj
  rw [Nat.zero_add, World.cell?_alloc_mark]
  have hj' : j < s.data.size := by simpa using hj
  rw [bytesRow_at s cap j hj', getD_at s j hj']
  rfl

end Go.Proofs.YtdljobmhnnegiaaDoor
