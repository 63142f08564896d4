/- spec.Pieces (function 20): it cuts a string into pieces; nothing is lost. -/
import Derived.Test.YtdljobmhnnegiaaDoorLines
import Derived.Test.YtdljobmhnnegiaaDoorSpecBench
namespace Go.Proofs.YtdljobmhnnegiaaDoor
open Go.RowKit

/-- A row of slices of bytes, each in a block of its own. -/
structure PL (H : Nat) (ps : List (List UInt8)) (v : Value) (xs : List Value) (w : World) : Prop where
  own : w.ownsRow H 23 1 v ps.length xs
  el : ∀ j, (hj : j < ps.length) → ∃ g cap, xs[j]? = some (.slice (some ⟨g, 0, none⟩) (ps[j]).length cap) ∧ (ps[j]).length ≤ cap ∧ H ≤ g ∧ v.ownBlock ≠ some g ∧ g < w.heap.size ∧ Rd w g 0 ps[j]

theorem PL.nil (H : Nat) (w : World) : PL H [] (.slice none 0 0) [] w := ⟨⟨rfl, .inl ⟨rfl, rfl⟩⟩, fun j hj => by simp at hj⟩
theorem PL.pc {H : Nat} {ps : List (List UInt8)} {v : Value} {xs : List Value} {w : World} (h : PL H ps v xs w) : PC w v ps := by
  rcases h.own.2 with ⟨rfl, h0⟩ | ⟨g, cap, cur, rfl, hg, hh, hc, _, _, ht⟩
  · exact ⟨none, 0, by rw [h0], by omega, fun i hi => by omega⟩
  · refine ⟨_, cap, rfl, hc, fun i hi => ?_⟩
    obtain ⟨g1, c1, a1, a2, a3, a4, a5, a6⟩ := h.el i hi
    refine ⟨g, 0, g1, 0, c1, rfl, ?_, a2, a6⟩
    simp only [World.cell?, hh]
    have : xs[i]? = cur[i]? := by rw [← ht, Nat.mul_one, List.getElem?_take, if_pos hi]; simp
    rw [Nat.zero_add, ← this, a1]; simp
/-- One more. -/
theorem PL.push {H : Nat} {ps : List (List UInt8)} {v : Value} {xs : List Value} {w w2 w3 : World} {fr : Nat × Nat} (h : PL H ps v xs w) (hH : H ≤ w.heap.size) (p : List UInt8) (cs : Array Value) (hcs : cs.toList.take p.length = vals p) {o : Obj} (hw2 : w2.heap = ((w.alloc (.cells cs 5 fr)).alloc o).heap) {c g' c' : Nat} (hc : p.length ≤ c)
    (ho : w3.ownsRow H 23 1 (.slice (some ⟨g', 0, none⟩) (ps.length + 1) c') (ps.length + 1) (xs ++ [.slice (some ⟨w.heap.size, 0, none⟩) p.length c])) (hg : w2.grownBy w3 v.ownBlock)
    (hat : v.ownBlock = some g' ∨ g' = w2.heap.size) : PL H (ps ++ [p]) (.slice (some ⟨g', 0, none⟩) (ps.length + 1) c') (xs ++ [.slice (some ⟨w.heap.size, 0, none⟩) p.length c]) w3 := by
  have hl : (ps ++ [p]).length = ps.length + 1 := by simp
  have hxl : xs.length = ps.length := by have := h.own.1; omega
  have hs2 : w2.heap.size = w.heap.size + 1 + 1 := by rw [hw2, size_alloc, size_alloc]
  have hv : ∀ k, v.ownBlock = some k → H ≤ k ∧ k < w.heap.size := h.own.lt
  refine ⟨by rw [hl]; exact ho, fun j hj => ?_⟩
  rcases Nat.lt_or_ge j ps.length with hlt | hge
  · obtain ⟨g1, c1, a1, a2, a3, a4, a5, a6⟩ := h.el j hlt
    have e : (ps ++ [p])[j] = ps[j] := List.getElem_append_left hlt
    rw [e]
    refine ⟨g1, c1, by rw [List.getElem?_append_left (by omega)]; exact a1, a2, a3, ?_, by have := hg.size; omega, ?_⟩
    · intro he
      have he' : g' = g1 := by simpa [Value.ownBlock] using he
      rcases hat with h1 | h1
      · exact a4 (by rw [← he']; exact h1)
      · omega
    · refine a6.same ?_
      rw [hg.block g1 (by omega) (fun he => a4 he.symm), hw2, Below.heap_alloc _ _ _ (by rw [size_alloc]; omega), Below.heap_alloc _ _ _ a5]
  · have hj' : j = ps.length := by omega
    subst hj'
    have e : (ps ++ [p])[ps.length] = p := by simp
    rw [e]
    refine ⟨w.heap.size, c, by rw [← hxl]; simp, hc, hH, ?_, by have := hg.size; omega, ?_⟩
    · intro he
      have he' : g' = w.heap.size := by simpa [Value.ownBlock] using he
      rcases hat with h1 | h1
      · have := hv g' h1; omega
      · omega
    · have h0 : w2.heap[w.heap.size]? = some (.cells cs 5 fr) := by
        rw [hw2, Below.heap_alloc _ _ _ (by rw [size_alloc]; omega)]; exact heap_alloc_new _ _
      exact Rd.of_block (by rw [hg.block w.heap.size (by omega) (fun he => by have := hv _ he.symm; omega)]; exact h0) hcs

/-- A slice of whole numbers. -/
def IC (w : World) (v : Value) (zs : List Int) : Prop :=
  ∃ p cap, v = .slice p zs.length cap ∧ zs.length ≤ cap ∧ ∀ i, (h : i < zs.length) → ∃ g off, p = some ⟨g, off, none⟩ ∧ w.cell? ⟨g, off + i, none⟩ = some (.int .i64 zs[i])

theorem bytesRow_take (s : ByteArray) (cap : Nat) : (bytesRow s cap).toList.take s.data.toList.length = vals s.data.toList := by
  apply List.ext_getElem?
  intro j
  rw [List.getElem?_take]
  split
  · rename_i hj
    have hj' : j < s.data.size := by simpa using hj
    rw [Array.getElem?_toList, bytesRow_at s cap j hj']
    simp [vals, Array.getElem?_eq_getElem hj']
  · rename_i hj
    rw [List.getElem?_eq_none (by rw [vals_length]; omega)]

def PiecesPost (w : World) (s : ByteArray) (e : Ending) (w' : World) : Prop :=
  ∃ v ps, e = .returned v ∧ PC w' v ps ∧ ps.flatten = s.data.toList ∧ ps.length ≤ s.size ∧ Below w.heap.size w w'

set_option maxRecDepth 100000 in
set_option maxHeartbeats 4000000 in
theorem pieces_any {w : World} (s : ByteArray) (hs : s.size ≤ 1000000) (v : Value) (zs : List Int) (hz : IC w v zs) (hzn : zs.length ≤ 2147483647) :
    Calls Tryd.prog 20 #[.string s, v] w (PiecesPost w s) := by
  obtain ⟨p, capv, rfl, hpc, hel⟩ := hz
  have HEL := Lib.hid hel
  clear hel
  obtain ⟨i23, hi, hz0, hz1, hz2⟩ := info_parts info23
  obtain ⟨N, hN⟩ : ∃ N, N = zs.length := ⟨_, rfl⟩
  have HN := Lib.hid hN
  rw [← hN] at hpc hzn ⊢
  clear hN
  obtain ⟨H, hH⟩ : ∃ H, H = w.heap.size := ⟨_, rfl⟩
  have HHH := Lib.hid hH
  clear hH
  go_enter Tryd.func20, Tryd.ntmps20
  go_wp2
  go_loopw [0, 5, 6] (fun v0 v5 v6 wr => ∃ (sr : ByteArray) (ps : List (List UInt8)) (xs : List Value) (vo : Value) (k : Nat), v0 = .string sr ∧ v5 = vo ∧ v6 = .int .i64 k ∧ sr.size + k ≤ s.size ∧ Hid (Below H w wr) ∧ Hid (PL H ps vo xs wr) ∧ Hid (ps.flatten ++ sr.data.toList = s.data.toList) ∧ Hid (ps.length = k)) (fun v0 _ _ _ => match v0 with | .string sr => sr.size | _ => 0)
  case atStart => exact ⟨s, [], [], _, 0, rfl, rfl, rfl, Nat.le_refl _, Below.refl _ _, PL.nil _ _, rfl, rfl⟩
  case round =>
    obtain ⟨sr, ps, xs, vo, k, rfl, rfl, rfl, hsk, HB, HPL, HF, HK⟩ := hrel
    by_cases h0 : sr.size = 0
    · have hsr : sr.data.toList = [] := List.eq_nil_of_length_eq_zero (by simpa using h0)
      have e1 : sr.toList = [] := by rw [ByteArray.toList_eq]; exact hsr
      have HE := Lib.hid hsr
      clear hsr
      go_wp2
      go_ret
      refine ⟨_, ps, rfl, HPL.out.pc, ?_, ?_, by rw [← HHH.out]; exact HB.out⟩
      · have := HF.out
        rw [HE.out, List.append_nil] at this
        exact this
      · have := HK.out; omega
    · have hne : ¬ sr.toList = [] := by rw [ByteArray.toList_eq]; intro h; exact h0 (by have := congrArg List.length h; simpa using this)
      have hne' : sr.toList.isEmpty = false := by cases h : sr.toList with | nil => exact absurd h hne | cons a b => rfl
      have hH : H ≤ wr.heap.size := by rw [HHH.out]; exact HB.out.size
      by_cases hN0 : N = 0
      · subst hN0
        have hconv := fun (w : World) => run_bytes_of_string (P := Tryd.prog) w 9 23 5 sr Tryd.underlying9 Tryd.underlying23 Tryd.underlying5
        go_wp2_with (at_builtin; refine wpList_append_lies _ rfl (.tmp 40) (.tmp 43) 28 rfl H 23 i23 _ 1 24 Tryd.underlying28 hi hz0 hz1 hz2 rfl (by decide) _ ps.length xs rfl ((HPL.out.own.alloc _).alloc _).drew ⟨wr.heap.size + 1, 0, none⟩ 1 1 [.slice (some ⟨wr.heap.size, 0, none⟩) sr.size (grownCap wr sr.size 0 5)] rfl rfl (World.news_of_block (cs := #[_]) (by rw [← size_alloc wr]; exact heap_alloc_new _ _)) (by intro u hu; simp at hu; subst hu; rfl) (by decide) (by unfold maxLen; have := HK.out; omega) (by have := HK.out; omega) (by simp; omega) _ rfl ?_; intro g' c' w3 hown hgrow hat hlt3)
        go_ret
        have hsl : sr.data.toList.length = sr.size := by simp
        have hP := HPL.out.push hH sr.data.toList (bytesRow sr (grownCap wr sr.size 0 5)) (bytesRow_take sr _) (w2 := ((wr.alloc _).alloc _).drew) rfl (c := grownCap wr sr.size 0 5) (by rw [hsl]; exact grownCap_ge _ _ _ _) (by rw [hsl]; exact hown) hgrow hat
        refine ⟨_, ps ++ [sr.data.toList], rfl, ?_, ?_, ?_, ?_⟩
        · have := hP.pc
          exact this
        · have := HF.out
          simpa using this
        · have := HK.out
          simp
          omega
        · rw [← HHH.out]
          exact ((((HB.out.alloc hH _).alloc (by rw [size_alloc]; omega) _).drew).grown hgrow (by show H ≤ ((wr.alloc _).alloc _).heap.size; rw [size_alloc, size_alloc]; omega) (fun k hk => (HPL.out.own.lt k hk).1))
      · have hNpos : 0 < N := by omega
        obtain ⟨r, hr⟩ : ∃ r, r = k % N := ⟨_, rfl⟩
        have hrN : r < N := by rw [hr]; exact Nat.mod_lt _ hNpos
        obtain ⟨g, off, hp, hcell⟩ := HEL.out r (by have := HN.out; omega)
        subst hp
        have hcell' : wr.cell? ⟨g, off + r, none⟩ = some (.int .i64 (zs[r]'(by have := HN.out; omega))) := by
          rw [HB.out.cell (p := ⟨g, off + r, none⟩) (by rw [HHH.out]; exact World.block_lt_of_cell? w _ hcell)]; exact hcell
        obtain ⟨z, hz⟩ : ∃ z, z = zs[r]'(by have := HN.out; omega) := ⟨_, rfl⟩
        rw [← hz] at hcell'
        clear hcell hz
        have r1 : (k : Int) % (N : Int) = (r : Int) := by rw [hr]; rfl
        obtain ⟨m, hm⟩ : ∃ m : Nat, min (max 1 z) (sr.size : Int) = (m : Int) := ⟨(min (max 1 z) (sr.size : Int)).toNat, by omega⟩
        have hm1 : 1 ≤ m := by omega
        have hm2 : m ≤ sr.size := by omega
        have b1 : (N : Int) ≠ 0 := by omega
        have b2 : (0 : Int) ≤ (r : Int) := by omega
        have b3 : (r : Int) < (N : Int) := by omega
        have b4 : (0 : Int) ≤ (m : Int) := by omega
        have b5 : (m : Int) ≤ (sr.size : Int) := by omega
        have b6 : 0 < N := hNpos
        clear hr
        have hconv := fun (w : World) => run_bytes_of_string (P := Tryd.prog) w 9 23 5 (sr.extract 0 m) Tryd.underlying9 Tryd.underlying23 Tryd.underlying5
        have b7 : IntKind.i64.wrap ((k : Int) + 1) = (k : Int) + 1 := IntWalk.i64_in _ (by omega)
        go_wp2_with (at_builtin; refine wpList_append_lies _ rfl (.tmp 28) (.tmp 33) 28 rfl H 23 i23 _ 1 24 Tryd.underlying28 hi hz0 hz1 hz2 rfl (by decide) _ ps.length xs rfl ((HPL.out.own.alloc _).alloc _).drew ⟨wr.heap.size + 1, 0, none⟩ 1 1 [.slice (some ⟨wr.heap.size, 0, none⟩) m (grownCap wr m 0 5)] rfl rfl (World.news_of_block (cs := #[_]) (by rw [← size_alloc wr]; exact heap_alloc_new _ _)) (by intro u hu; simp at hu; subst hu; rfl) (by decide) (by unfold maxLen; have := HK.out; omega) (by have := HK.out; omega) (by simp; omega) _ rfl ?_; intro g' c' w3 hown hgrow hat hlt3)
        have hsl : (sr.extract 0 m).data.toList.length = m := by simp; omega
        have hP := HPL.out.push hH (sr.extract 0 m).data.toList (bytesRow (sr.extract 0 m) (grownCap wr m 0 5)) (bytesRow_take _ _) (w2 := ((wr.alloc _).alloc _).drew) rfl (c := grownCap wr m 0 5) (by rw [hsl]; exact grownCap_ge _ _ _ _) (by rw [hsl]; exact hown) hgrow hat
        go_roundw
        case rel =>
          refine ⟨sr.extract m sr.size, ps ++ [(sr.extract 0 m).data.toList], _, _, k + 1, rfl, rfl, by go_num, ?_, ?_, hP, ?_, ?_⟩
          · simp; omega
          · exact ((((HB.out.alloc hH _).alloc (by rw [size_alloc]; omega) _).drew).grown hgrow (by show H ≤ ((wr.alloc _).alloc _).heap.size; rw [size_alloc, size_alloc]; omega) (fun k hk => (HPL.out.own.lt k hk).1))
          · have h1 := HF.out
            have e1 := extract_take sr m
            have e2 := extract_end sr m
            rw [ByteArray.toList_eq] at e1 e2
            show _ = _
            rw [List.flatten_append, e1, e2, ← h1]
            simp
          · have := HK.out
            show _ = _
            simp [this]
        case measure => simp; omega
end Go.Proofs.YtdljobmhnnegiaaDoor
