/- What FnAttribute and FnArtifacts share: proper tests whose lines are made of strings, the last byte, six events. -/
import Derived.Test.YtdljobmhnnegiaaDoorWalkEscZ
namespace Go.Proofs.YtdljobmhnnegiaaDoor
open Go.RowKit

set_option maxRecDepth 100000 in
set_option maxHeartbeats 4000000 in
theorem properB_any (s : ByteArray) (k : Int) (lv : Value) (ls : List (List UInt8)) (w : World) (hl : SC w lv ls) (hn : s.size ≤ 2147483647) (hls : ls.length ≤ 2147483647) (hlb : ∀ l ∈ ls, l.length ≤ 2147483648) :
    Calls Tryd.prog 21 #[.agg #[.string s, .int .i64 k, lv]] w (ProperPost s.data.toList k ls w) := by
  obtain ⟨p, cap, rfl, hc, hel⟩ := hl
  have HEL := Lib.hid hel
  have HLB := Lib.hid hlb
  obtain ⟨N, hN⟩ : ∃ N, N = ls.length := ⟨_, rfl⟩
  have HN := Lib.hid hN
  rw [← hN] at hls hc ⊢
  have HB : Hid (∀ o, Below w.heap.size w (w.alloc o)) := fun o => (Below.refl _ w).alloc (Nat.le_refl _) o
  obtain ⟨M, hM⟩ : ∃ M, M = s.size := ⟨_, rfl⟩
  have HM : Hid (M = s.data.toList.length) := by show _ = _; rw [hM]; simp
  have HM2 := Lib.hid hM
  have hszI : ((s.size : Nat) : Int) = (M : Int) := by rw [hM]
  clear hel hlb hN
  by_cases k0 : k < 0
  · go_enter Tryd.func21, Tryd.ntmps21
    go_wp2
    go_ret
    exact .no (HB.out _)
  by_cases k2 : (2 : Int) < k
  · go_enter Tryd.func21, Tryd.ntmps21
    go_wp2
    go_ret
    exact .no (HB.out _)
  by_cases hne : s.data.toList = []
  · have e1 : s.toList = [] := by rw [ByteArray.toList_eq]; exact hne
    have HNE := Lib.hid hne
    clear hne
    go_enter Tryd.func21, Tryd.ntmps21
    go_wp2
    go_ret
    exact .no (HB.out _)
  have hne1 : ¬ s.toList = [] := by rw [ByteArray.toList_eq]; exact hne
  have hne2 : s.toList.isEmpty = false := by cases h : s.toList with | nil => exact absurd h hne1 | cons a b => rfl
  have HNE := Lib.hid hne
  have HK := Lib.hid (And.intro k0 k2)
  clear hne
  by_cases h50 : (50 : Int) < (M : Int)
  · go_enter Tryd.func21, Tryd.ntmps21
    go_wp2
    go_ret
    exact .no (HB.out _)
  have HP : Hid (∀ w, Calls Tryd.prog 36 #[.string s] w (PlainPost s w)) := fun w => plainS_any s w (by omega)
  go_enter Tryd.func21, Tryd.ntmps21
  go_wp2_with fail
  refine (HP.out _).mono ?_
  rintro e w' ⟨b, rfl, hb, rfl⟩
  have HPL := Lib.hid hb
  clear hb
  cases b with
  | false =>
    dsimp only
    go_wp2_with fail
    go_ret
    exact .no (HB.out _)
  | true =>
  by_cases h20 : (20 : Int) < (N : Int)
  · dsimp only
    go_wp2_with fail
    go_ret
    exact .no (HB.out _)
  dsimp only
  go_wp2_with fail
  go_loop [40] (fun v40 => ∃ i : Nat, i ≤ M ∧ v40 = .int .i64 i ∧ Hid (∀ c ∈ s.data.toList.take i, c ≠ 32)) (fun i => M - (intOf i).toNat)
  case atStart => exact ⟨0, Nat.zero_le _, rfl, fun c hc => by simp at hc⟩
  case round =>
    obtain ⟨i, hi, rfl, HA⟩ := hrel
    by_cases hltM : i < M
    · have hlt : i < s.size := by omega
      have hll : i < s.data.toList.length := by simpa using hlt
      have e : s.data.toList[i] = s[i]'hlt := rfl
      obtain ⟨m, hm⟩ : ∃ m, m = (s[i]'hlt).toNat := ⟨_, rfl⟩
      have hms : ((s[i]'hlt).toNat : Int) = (m : Int) := by rw [hm]
      have HMM := Lib.hid hm
      clear hm
      by_cases h32 : m = 32
      · have hb : ((m : Int) == 32) = true := by simp [h32]
        go_wp2_with fail
        go_ret
        exact .no (HB.out _)
      · have hb : ((m : Int) == 32) = false := by simp; omega
        go_wp2_with fail
        go_round
        case rel => exact ⟨i + 1, by omega, by go_num, all_take_succ _ _ i hll HA.out (by rw [e]; intro hh; exact h32 (by rw [HMM.out, hh]; rfl))⟩
        case measure => simp [intOf]; omega
    · have HNB : Hid (∀ c ∈ s.data.toList, c ≠ 32) := by
        have := HA.out
        rwa [List.take_of_length_le (by have := HM.out; omega)] at this
      go_wp2_with fail
      go_loop [52] (fun v52 => ∃ i : Nat, i ≤ N ∧ v52 = .int .i64 i ∧ Hid (∀ l ∈ ls.take i, LineP l)) (fun i => N - (intOf i).toNat)
      case atStart => exact ⟨0, Nat.zero_le _, rfl, fun c hc => by simp at hc⟩
      case round =>
        obtain ⟨j, hj, rfl, HL⟩ := hrel
        by_cases hltN : j < N
        · have hjl : j < ls.length := by have := HN.out; omega
          obtain ⟨g, off, hp, hcell⟩ := HEL.out j hjl
          subst hp
          have hgl : g < w.heap.size := World.block_lt_of_cell? w _ hcell
          have hcell' : ∀ o, (w.alloc o).cell? ⟨g, off + j, none⟩ = some (.string (S ls[j])) := fun o => ((HB.out o).cell (p := ⟨g, off + j, none⟩) hgl).trans hcell
          obtain ⟨x, hx⟩ : ∃ x, x = S ls[j] := ⟨_, rfl⟩
          have hxd : x.data.toList = ls[j] := by rw [hx]; try simp [S]
          have hxs : x.size = ls[j].length := by rw [← hxd]; simp
          rw [← hx] at hcell'
          have HX := Lib.hid hxd
          have HXS := Lib.hid hxs
          have HPx : Hid (∀ w, Calls Tryd.prog 36 #[.string x] w (PlainPost x w)) := fun w => plainS_any x w (by have := HLB.out _ (List.getElem_mem hjl); omega)
          clear hcell hx hxd hxs
          go_wp2_with fail
          refine (HPx.out _).mono ?_
          rintro e w' ⟨b, rfl, hb, rfl⟩
          have HPLx := Lib.hid hb
          clear hb
          cases b with
          | false =>
            dsimp only
            go_wp2_with fail
            go_ret
            exact .no (HB.out _)
          | true =>
          by_cases hxe : x.data.toList = []
          · have e1 : x.toList = [] := by rw [ByteArray.toList_eq]; exact hxe
            have HXE := Lib.hid hxe
            clear hxe
            dsimp only
            go_wp2_with fail
            go_ret
            exact .no (HB.out _)
          have hxe1 : ¬ x.toList = [] := by rw [ByteArray.toList_eq]; exact hxe
          have hxe2 : x.toList.isEmpty = false := by cases h : x.toList with | nil => exact absurd h hxe1 | cons a b => rfl
          have hx0 : 0 < x.size := by
            rcases Nat.eq_zero_or_pos x.size with h | h
            · exact absurd (List.eq_nil_of_length_eq_zero (by simpa using h)) hxe
            · exact h
          have HXE := Lib.hid hxe
          clear hxe
          by_cases h100 : (100 : Int) < (x.size : Int)
          · dsimp only
            go_wp2_with fail
            go_ret
            exact .no (HB.out _)
          obtain ⟨m, hm⟩ : ∃ m, m = (x[0]'hx0).toNat := ⟨_, rfl⟩
          have hms : ((x[0]'hx0).toNat : Int) = (m : Int) := by rw [hm]
          have HMM := Lib.hid hm
          clear hm
          by_cases h32 : m = 32
          · have hb : ((m : Int) == 32) = true := by simp [h32]
            dsimp only
            go_wp2_with fail
            go_ret
            exact .no (HB.out _)
          · have hb : ((m : Int) == 32) = false := by simp; omega
            dsimp only
            go_wp2_with fail
            go_round
            case rel =>
              refine ⟨j + 1, by omega, by go_num, ?_⟩
              intro l hl
              rw [List.take_succ_eq_append_getElem hjl] at hl
              rcases List.mem_append.1 hl with hl | hl
              · exact HL.out l hl
              · rw [List.mem_singleton] at hl
                subst hl
                refine ⟨fun c hc => HPLx.out rfl c (by rw [HX.out]; exact hc), by rw [← HX.out]; exact HXE.out, by have := HXS.out; omega, ?_⟩
                rw [← HX.out]
                intro hh
                apply h32
                have hx0' : 0 < x.data.toList.length := by simpa using hx0
                rw [List.getD_eq_getElem?_getD, List.getElem?_eq_getElem hx0'] at hh
                have : (x[0]'hx0) = 32 := hh
                rw [HMM.out, this]; rfl
            case measure => simp [intOf]; omega
        · go_wp2_with fail
          go_ret
          refine ⟨true, rfl, fun _ => ⟨by omega, by omega, HNE.out, by have := HM.out; omega, HPL.out (by trivial), HNB.out, by have := HN.out; omega, ?_⟩, HB.out _⟩
          have := HL.out
          rwa [List.take_of_length_le (by have := HN.out; omega)] at this


theorem sc_one (W : World) (x : ByteArray) (lx : List UInt8) (hx : x.data.toList = lx) (fr : Nat × Nat) : SC (W.alloc (.cells #[.string x] 9 fr)) (.slice (some ⟨W.heap.size, 0, none⟩) 1 1) [lx] := by
  have hx' := eq_S hx
  subst hx'
  have hh : (W.alloc (.cells #[.string (S lx)] 9 fr)).heap[W.heap.size]? = some (.cells #[.string (S lx)] 9 fr) := heap_alloc_new _ _
  refine ⟨_, 1, rfl, Nat.le_refl _, fun i hi => ⟨W.heap.size, 0, rfl, ?_⟩⟩
  have hi0 : i = 0 := by simp at hi; omega
  subst hi0
  simp only [World.cell?, hh]
  rfl
theorem sc_two (W : World) (x y : ByteArray) (lx ly : List UInt8) (hx : x.data.toList = lx) (hy : y.data.toList = ly) (fr : Nat × Nat) (o : Obj) : SC ((W.alloc (.cells #[.string x, .string y] 9 fr)).alloc o) (.slice (some ⟨W.heap.size, 0, none⟩) 2 2) [lx, ly] := by
  have hx' := eq_S hx
  subst hx'
  have hy' := eq_S hy
  subst hy'
  have hh : ((W.alloc (.cells #[.string (S lx), .string (S ly)] 9 fr)).alloc o).heap[W.heap.size]? = some (.cells #[.string (S lx), .string (S ly)] 9 fr) := by
    rw [Below.heap_alloc _ _ _ (by rw [size_alloc]; omega)]; exact heap_alloc_new _ _
  refine ⟨_, 2, rfl, Nat.le_refl _, fun i hi => ⟨W.heap.size, 0, rfl, ?_⟩⟩
  rcases (show i = 0 ∨ i = 1 by simp at hi; omega) with rfl | rfl
  · simp only [World.cell?, hh]; rfl
  · simp only [World.cell?, hh]; rfl

/-- A line that was made of an x and a text: the text. -/
theorem line_x {l : List UInt8} (h : LineP (120 :: l)) : AlnumB l ∧ l.length ≤ 100 := by
  refine ⟨fun c hc => ?_, ?_⟩
  · have := h.plain c (List.mem_cons_of_mem _ hc)
    unfold plainN at this
    omega
  · have := h.len
    simp at this
    omega
theorem last_of {s : ByteArray} (hs : 0 < s.size) (h : (s[s.size - 1]'(by omega)).toNat ≠ 32) : s.data.toList.getLast? ≠ some 32 := by
  have hl : s.data.toList.length = s.size := Array.length_toList
  rw [List.getLast?_eq_getElem?, hl, List.getElem?_eq_getElem (by omega)]
  intro hh
  apply h
  have h2 := Option.some.inj hh
  have h3 : s[s.size - 1]'(by omega) = 32 := h2
  rw [h3]; rfl

/-- Six events, the fourth of which is looked for. -/
theorem six_at {e0 e1 e2 x e4 e5 : Ev} {act : List UInt8} (h0 : e0.action ≠ act) (h1 : e1.action ≠ act) (h2 : e2.action ≠ act) (h4 : e4.action ≠ act) (h5 : e5.action ≠ act) :
    ∀ (i : Nat) (e : Ev), [e0, e1, e2, x, e4, e5][i]? = some e → (i = 3 → e = x) ∧ (i ≠ 3 → e.action ≠ act)
  | 0, e, h => by obtain rfl : e0 = e := Option.some.inj h; exact ⟨fun h => by omega, fun _ => h0⟩
  | 1, e, h => by obtain rfl : e1 = e := Option.some.inj h; exact ⟨fun h => by omega, fun _ => h1⟩
  | 2, e, h => by obtain rfl : e2 = e := Option.some.inj h; exact ⟨fun h => by omega, fun _ => h2⟩
  | 3, e, h => by obtain rfl : x = e := Option.some.inj h; exact ⟨fun _ => rfl, fun h => absurd rfl h⟩
  | 4, e, h => by obtain rfl : e4 = e := Option.some.inj h; exact ⟨fun h => by omega, fun _ => h4⟩
  | 5, e, h => by obtain rfl : e5 = e := Option.some.inj h; exact ⟨fun h => by omega, fun _ => h5⟩
  | _ + 6, e, h => by simp at h

end Go.Proofs.YtdljobmhnnegiaaDoor
