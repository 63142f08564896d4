/- ZZLines (function 35): the texts and marks that a line buffer hands on. -/
import Derived.Test.YtdljobmhnnegiaaDoorWrite
import Derived.Test.YtdljobmhnnegiaaDoorLinesCB
import Derived.Laws.EntriesVeiled
namespace Go.Proofs.YtdljobmhnnegiaaDoor
open Go.RowKit

/-- A slice of slices of bytes. -/
def PC (w : World) (v : Value) (ps : List (List UInt8)) : Prop :=
  ∃ p cap, v = .slice p ps.length cap ∧ ps.length ≤ cap ∧
    ∀ i, (h : i < ps.length) → ∃ g off g1 o1 c1, p = some ⟨g, off, none⟩ ∧ w.cell? ⟨g, off + i, none⟩ = some (.slice (some ⟨g1, o1, none⟩) (ps[i]).length c1) ∧ (ps[i]).length ≤ c1 ∧ Rd w g1 o1 ps[i]

theorem make_bytes (cap : Nat) (hcap : cap ≤ 1000000) : ∃ raw : Array Value, raw.size = cap ∧ ∀ w : World, (Instr.makeSlice 23 (.int .i64 0) (.int .i64 cap)).run Tryd.prog w = .ok (.slice (some ⟨w.heap.size, 0, none⟩) 0 cap) (w.alloc (.cells raw 5 (0, 0))) := by
  obtain ⟨i0, hi, hz0, hz1, hz2⟩ := info_parts info5
  refine ⟨madeCells (Value.int .u8 0).cells (cap * 1), by rw [size_madeCells]; omega, fun w => ?_⟩
  have h := run_make (P := Tryd.prog) w 23 5 i0 _ Tryd.underlying23 hi hz0 .i64 .i64 0 cap (by omega) (by omega) (by rw [hz2]; omega) (by omega)
  rw [hz1, Int.toNat_natCast] at h
  exact h

section
variable {σ : Type} {L P : σ → List UInt8 → σ} {pot : σ → Nat} (hpL : ∀ s l, pot (L s l) = pot s + l.length) (hpP : ∀ s l, pot (P s l) = pot s + l.length)
include hpL hpP
theorem tot_write (cap : Nat) : ∀ (k : Nat) (x : LB × σ) (l : List UInt8), pot (writeF L P cap k x l).2 + (writeF L P cap k x l).1.bs.length ≤ pot x.2 + x.1.bs.length + l.length
  | 0, x, l => by unfold writeF; omega
  | k + 1, x, l => by
    unfold writeF
    split
    · omega
    · refine Nat.le_trans (tot_write cap k _ _) ?_
      unfold roundF
      rw [tot_end hpP, tot_inner hpL hpP]
      unfold tot
      dsimp only
      rw [List.length_append, List.length_take, List.length_drop]
      omega
theorem tot_writes (cap : Nat) : ∀ (ps : List (List UInt8)) (x : LB × σ), pot (ps.foldl (fun x p => writeF L P cap p.length x p) x).2 + (ps.foldl (fun x p => writeF L P cap p.length x p) x).1.bs.length ≤ pot x.2 + x.1.bs.length + ps.flatten.length
  | [], x => by simp
  | p :: ps, x => by
    simp only [List.foldl_cons, List.flatten_cons, List.length_append]
    have h1 := tot_writes cap ps (writeF L P cap p.length x p)
    have h2 := tot_write hpL hpP cap p.length x p
    omega
end

/-- The callbacks, plain. -/
def lineZ (st : List (List UInt8 × Bool)) (l : List UInt8) : List (List UInt8 × Bool) := st ++ [(l, true)]
def partZ (st : List (List UInt8 × Bool)) (l : List UInt8) : List (List UInt8 × Bool) := st ++ [(l, false)]
/-- All pieces written. -/
def writesZ (cap : Nat) (ps : List (List UInt8)) : LB × List (List UInt8 × Bool) := ps.foldl (fun x p => writeF lineZ partZ cap p.length x p) (⟨[], false, false⟩, [])
/-- ZZLines. -/
def linesZ (cap : Nat) (ps : List (List UInt8)) : List (List UInt8 × Bool) := (flushF partZ (writesZ cap ps).1 (writesZ cap ps).2).2

theorem pot_lineZ (st : List (List UInt8 × Bool)) (l : List UInt8) : potZ (lineZ st l) = potZ st + l.length := by simp [potZ, lineZ]
theorem pot_partZ (st : List (List UInt8 × Bool)) (l : List UInt8) : potZ (partZ st l) = potZ st + l.length := by simp [potZ, partZ]
theorem writesZ_bound (cap : Nat) (ps : List (List UInt8)) : potZ (writesZ cap ps).2 + (writesZ cap ps).1.bs.length ≤ ps.flatten.length := by
  have := tot_writes pot_lineZ pot_partZ cap ps (⟨[], false, false⟩, [])
  simpa [potZ, writesZ] using this
theorem flatten_take_le {α : Type} (ps : List (List α)) (i : Nat) : (ps.take i).flatten.length ≤ ps.flatten.length := by
  conv => rhs; rw [← List.take_append_drop i ps, List.flatten_append, List.length_append]
  omega
theorem flatten_take_succ {α : Type} (ps : List (List α)) (i : Nat) (h : i < ps.length) : (ps.take i).flatten.length + ps[i].length ≤ ps.flatten.length := by
  have h1 : ps.take (i + 1) = ps.take i ++ [ps[i]] := by simp
  have h2 := flatten_take_le ps (i + 1)
  rw [h1, List.flatten_append, List.length_append] at h2
  simpa using h2

/-- What ZZLines leaves. -/
def ZPost (w : World) (st : List (List UInt8 × Bool)) (e : Ending) (w' : World) : Prop :=
  ∃ vT vW xs, e = .returned (.tuple #[vT, vW]) ∧ Below w.heap.size w w' ∧ w'.ownsRow w.heap.size 23 1 vT st.length xs ∧ w'.ownsRow w.heap.size 4 1 vW st.length (st.map fun p => Value.bool p.2) ∧
    ∀ i, (hi : i < st.length) → ∃ g cap, xs[i]? = some (.slice (some ⟨g, 0, none⟩) (st[i]).1.length cap) ∧ (st[i]).1.length ≤ cap ∧ w.heap.size ≤ g ∧ Rd w' g 0 (st[i]).1

theorem owns_form {w : World} {base : Nat} {e : TypeId} {size : Nat} {v : Value} {n : Nat} {xs : List Value} (h : w.ownsRow base e size v n xs) : ∃ p c, v = .slice p n c := by
  rcases h.2 with ⟨rfl, rfl⟩ | ⟨g, cap, cur, rfl, _⟩
  · exact ⟨_, _, rfl⟩
  · exact ⟨_, _, rfl⟩
theorem ownsRow_base {w : World} {base base' : Nat} {e : TypeId} {size : Nat} {v : Value} {n : Nat} {xs : List Value} (h : w.ownsRow base e size v n xs) (hb : base' ≤ base) : w.ownsRow base' e size v n xs := by
  refine ⟨h.1, ?_⟩
  rcases h.2 with hn | ⟨g, cap, cur, rfl, h1, h2⟩
  · exact .inl hn
  · exact .inr ⟨g, cap, cur, rfl, Nat.le_trans hb h1, h2⟩

theorem results_cell_cell {fn : Func} {p q : Tmp} {ty ty2 : TypeId} (h : fn.results = #[.cell p ty, .cell q ty2]) (tmps : Array Value) (P : Program) (w : World) :
    (results fn tmps).run P w = ((asAddr (tmps.getD p undef)).run P w).andThen fun a w₁ => ((loadVar ty a).run P w₁).andThen fun v w₂ => ((asAddr (tmps.getD q undef)).run P w₂).andThen fun a2 w₃ => ((loadVar ty2 a2).run P w₃).andThen fun v2 w₄ => .ok (.tuple #[v, v2]) w₄ := by
  simp only [results, h]
  simp [Sem.run_bind, Result.andThen]

/-- The world of ZZLines behind its beginning. -/
def madeZ (w : World) (raw : Array Value) (cap : Nat) : World :=
  (((w.alloc (.cells #[.slice none 0 0] 28 (0, 0))).alloc (.cells #[.slice none 0 0] 66 (0, 0))).alloc (.cells raw 5 (0, 0))).alloc
    (.cells #[.slice (some ⟨w.heap.size + 1 + 1, 0, none⟩) 0 cap, .bool false, .func (.func 48) #[] #[.pointer (some ⟨w.heap.size, 0, none⟩), .pointer (some ⟨w.heap.size + 1, 0, none⟩)],
      .func (.func 49) #[] #[.pointer (some ⟨w.heap.size, 0, none⟩), .pointer (some ⟨w.heap.size + 1, 0, none⟩)], .bool false] 86 (0, 0))
theorem size_alloc (w : World) (o : Obj) : (w.alloc o).heap.size = w.heap.size + 1 := by simp
theorem madeZ_facts (w : World) (raw : Array Value) (cap : Nat) : (madeZ w raw cap).heap.size = w.heap.size + 4 ∧ Below w.heap.size w (madeZ w raw cap) ∧ (madeZ w raw cap).heap[w.heap.size]? = some (.cells #[.slice none 0 0] 28 (0, 0)) ∧
    (madeZ w raw cap).heap[w.heap.size + 1]? = some (.cells #[.slice none 0 0] 66 (0, 0)) ∧ (madeZ w raw cap).heap[w.heap.size + 1 + 1]? = some (.cells raw 5 (0, 0)) ∧
    (madeZ w raw cap).heap[w.heap.size + 1 + 1 + 1]? = some (.cells #[.slice (some ⟨w.heap.size + 1 + 1, 0, none⟩) 0 cap, .bool false, .func (.func 48) #[] #[.pointer (some ⟨w.heap.size, 0, none⟩), .pointer (some ⟨w.heap.size + 1, 0, none⟩)],
      .func (.func 49) #[] #[.pointer (some ⟨w.heap.size, 0, none⟩), .pointer (some ⟨w.heap.size + 1, 0, none⟩)], .bool false] 86 (0, 0)) := by
  unfold madeZ
  refine ⟨?_, ?_, ?_, ?_, ?_, ?_⟩
  · simp only [size_alloc]
  · exact ((((Below.refl _ _).alloc (Nat.le_refl _) _).alloc (by simp only [size_alloc]; omega) _).alloc (by simp only [size_alloc]; omega) _).alloc (by simp only [size_alloc]; omega) _
  · rw [Below.heap_alloc _ _ _ (by simp only [size_alloc]; omega), Below.heap_alloc _ _ _ (by simp only [size_alloc]; omega), Below.heap_alloc _ _ _ (by simp only [size_alloc]; omega)]; exact heap_alloc_new _ _
  · rw [Below.heap_alloc _ _ _ (by simp only [size_alloc]; omega), Below.heap_alloc _ _ _ (by simp only [size_alloc]; omega)]
    have h := heap_alloc_new (w.alloc (.cells #[.slice none 0 0] 28 (0, 0))) (.cells #[.slice none 0 0] 66 (0, 0))
    rw [size_alloc] at h; exact h
  · rw [Below.heap_alloc _ _ _ (by simp only [size_alloc]; omega)]
    have h := heap_alloc_new ((w.alloc (.cells #[.slice none 0 0] 28 (0, 0))).alloc (.cells #[.slice none 0 0] 66 (0, 0))) (.cells raw 5 (0, 0))
    rw [size_alloc, size_alloc] at h; exact h
  · have h := heap_alloc_new (((w.alloc (.cells #[.slice none 0 0] 28 (0, 0))).alloc (.cells #[.slice none 0 0] 66 (0, 0))).alloc (.cells raw 5 (0, 0))) (.cells #[.slice (some ⟨w.heap.size + 1 + 1, 0, none⟩) 0 cap, .bool false, .func (.func 48) #[] #[.pointer (some ⟨w.heap.size, 0, none⟩), .pointer (some ⟨w.heap.size + 1, 0, none⟩)],
      .func (.func 49) #[] #[.pointer (some ⟨w.heap.size, 0, none⟩), .pointer (some ⟨w.heap.size + 1, 0, none⟩)], .bool false] 86 (0, 0))
    rw [size_alloc, size_alloc, size_alloc] at h; exact h

set_option maxRecDepth 100000 in
set_option maxHeartbeats 4000000 in
theorem zzlines_any {w : World} (hg4 : G4 w) (cap : Nat) (h4 : 4 ≤ cap) (hcap : cap ≤ 100000) (v : Value) (ps : List (List UInt8)) (hps : PC w v ps) (hM : ps.flatten.length ≤ 1000000) (hn : ps.length ≤ 1000000000) :
    Calls Tryd.prog 35 #[.int .i64 cap, v] w (ZPost w (linesZ cap ps)) := by
  have k1 : (0 : Int) ≤ (cap : Int) := by omega
  have k2 : (cap : Int) ≤ 100000 := by omega
  obtain ⟨raw, hraw, hmk⟩ := make_bytes cap (by omega)
  obtain ⟨p, capv, rfl, hpc, hel⟩ := hps
  have HEL := Lib.hid hel
  have HG := Lib.hid hg4
  have HMM := Lib.hid hM
  clear hel hg4 hM
  obtain ⟨H, hH⟩ : ∃ H, H = w.heap.size := ⟨_, rfl⟩
  obtain ⟨N, hN⟩ : ∃ N, N = ps.length := ⟨_, rfl⟩
  have HN := Lib.hid hN
  rw [← hN] at hpc hn ⊢
  clear hN
  go_enter Tryd.func35, Tryd.ntmps35
  go_upto_region 4 with fail
  obtain ⟨W1, hW1⟩ : ∃ W1, W1 = madeZ w raw cap := ⟨_, rfl⟩
  unfold madeZ at hW1
  rw [← hW1]
  rw [← hH]
  obtain ⟨hs1, hb1, e4, e5, e6, e7⟩ := madeZ_facts w raw cap
  rw [show madeZ w raw cap = W1 from hW1.symm, ← hH] at hs1 hb1 e4 e5 e6 e7
  clear hW1
  obtain ⟨lv, hlv⟩ : ∃ lv : Value, lv = .func (.func 48) #[] #[.pointer (some ⟨H, 0, none⟩), .pointer (some ⟨H + 1, 0, none⟩)] := ⟨_, rfl⟩
  obtain ⟨pv, hpv⟩ : ∃ pv : Value, pv = .func (.func 49) #[] #[.pointer (some ⟨H, 0, none⟩), .pointer (some ⟨H + 1, 0, none⟩)] := ⟨_, rfl⟩
  have hcb8 := @zline48 W1 (H + 4) (H + 1 + 1 + 1) (H + 1 + 1) H (H + 1) cap 1000000 lv pv (by omega) (by omega) (by omega) (by omega) (by omega) (by omega) (by omega) (by omega) (by omega) (Nat.le_refl _)
  have hcb9 := @zline49 W1 (H + 4) (H + 1 + 1 + 1) (H + 1 + 1) H (H + 1) cap 1000000 lv pv (by omega) (by omega) (by omega) (by omega) (by omega) (by omega) (by omega) (by omega) (by omega) (Nat.le_refl _)
  have hzl : Hid (ZL W1 (H + 4) (H + 1 + 1 + 1) (H + 1 + 1) H (H + 1) [] W1) := ⟨rfl, rfl, rfl, by omega, fun _ _ _ _ _ _ => rfl, by simp, .slice none 0 0, .slice none 0 0, [],
    ⟨e4, e5, ⟨rfl, .inl ⟨rfl, rfl⟩⟩, ⟨rfl, .inl ⟨rfl, rfl⟩⟩, fun g h => by simp [Value.ownBlock] at h, fun i hi => by simp at hi⟩⟩
  have hlb : Hid (LBS (H + 1 + 1 + 1) 0 (H + 1 + 1) cap lv pv 0 0 [] false false W1) := by
    refine ⟨?_, ?_, ?_, ?_, ?_, ?_, ⟨raw, e6, hraw⟩, Rd.nil _ _ _, rfl, Nat.zero_le _, by omega⟩
    · simp [World.cell?, e7]
    · simp [World.cell?, e7]
    · simp [World.cell?, e7, hlv]
    · simp [World.cell?, e7, hpv]
    · simp [World.cell?, e7]
    · intro j; simp [World.frozen?, e7]
  have HC8 := Lib.hid hcb8
  have HC9 := Lib.hid hcb9
  have HB1 := Lib.hid hb1
  have HONLY : Hid (∀ s w1 w2, ZL W1 (H + 4) (H + 1 + 1 + 1) (H + 1 + 1) H (H + 1) s w1 → Only (H + 1 + 1 + 1) 0 (H + 1 + 1) w1 w2 → ZL W1 (H + 4) (H + 1 + 1 + 1) (H + 1 + 1) H (H + 1) s w2) :=
    fun s w1 w2 h1 h2 => h1.only h2 (by omega) (by omega) (by omega) (by omega) (by omega) (by omega) (by omega) (by omega)
  -- what was there at the beginning is as it was
  have HKEEP : Hid (∀ s w1, ZL W1 (H + 4) (H + 1 + 1 + 1) (H + 1 + 1) H (H + 1) s w1 → Below H w w1) := fun s w1 h => by
    refine ⟨h.os.trans hb1.os, h.tape.trans hb1.tape, h.output.trans hb1.output, by have := h.size; omega, fun k hk => ?_⟩
    exact (h.keep k (by omega) (by omega) (by omega) (by omega) (by omega)).trans (hb1.block k hk)
  have HHH := Lib.hid hH
  have HS1 := Lib.hid hs1
  rw [← hlv, ← hpv]
  have HLV := Lib.hid hlv
  have HPV := Lib.hid hpv
  clear e4 e5 e6 e7 hcb8 hcb9 hb1 hmk hs1 hH hraw hlv hpv k1 k2
  go_wp2
  go_loopw [18] (fun v18 wr => ∃ (i : Nat) (x : LB × List (List UInt8 × Bool)), v18 = .int .i64 i ∧ i ≤ N ∧ Hid (x = writesZ cap (ps.take i)) ∧ Hid (ZL W1 (H + 4) (H + 1 + 1 + 1) (H + 1 + 1) H (H + 1) x.2 wr) ∧
      Hid (LBS (H + 1 + 1 + 1) 0 (H + 1 + 1) cap lv pv x.1.bs.length 0 x.1.bs x.1.mid x.1.esc wr) ∧ Hid (x.1.bs.length < cap)) (fun v18 _ => N - (intOf v18).toNat)
  case atStart => exact ⟨0, (⟨[], false, false⟩, []), rfl, Nat.zero_le _, rfl, hzl, hlb, (show 0 < cap by omega)⟩
  case round =>
    obtain ⟨i, x, rfl, hiN, HX, HZ, HLB, HLT⟩ := hrel
    clear hzl hlb
    by_cases hin : i < N
    · have hip : i < ps.length := by have := HN.out; omega
      obtain ⟨g, off, g1, o1, c1, hp, hcell, hc1, hrd⟩ := HEL.out i hip
      subst hp
      have hbel := HKEEP.out _ _ HZ.out
      have hgH : g < H := by rw [HHH.out]; exact World.block_lt_of_cell? w _ hcell
      have hcell' : wr.cell? ⟨g, off + i, none⟩ = some (.slice (some ⟨g1, o1, none⟩) (ps[i]).length c1) := by rw [hbel.cell (p := ⟨g, off + i, none⟩) hgH]; exact hcell
      have hrdw : ∀ W : World, Below H w W → Rd W g1 o1 ps[i] := fun W hW => by
        by_cases h0 : 0 < (ps[i]).length
        · exact hrd.below hW (by rw [HHH.out]; exact hrd.lt h0)
        · rw [List.eq_nil_of_length_eq_zero (Nat.eq_zero_of_not_pos h0)]; exact Rd.nil _ _ _
      have hbd := writesZ_bound cap (ps.take i)
      rw [← HX.out] at hbd
      have hfl := flatten_take_succ ps i hip
      have hwr := @write_any _ potZ 1000000 (H + 1 + 1 + 1) 0 (H + 1 + 1) cap 48 49 #[] #[.pointer (some ⟨H, 0, none⟩), .pointer (some ⟨H + 1, 0, none⟩)] #[] #[.pointer (some ⟨H, 0, none⟩), .pointer (some ⟨H + 1, 0, none⟩)]
        (fun st w => ZL W1 (H + 4) (H + 1 + 1 + 1) (H + 1 + 1) H (H + 1) st w) lineZ partZ (by rw [← HLV.out, ← HPV.out]; exact HC8.out) (by rw [← HLV.out, ← HPV.out]; exact HC9.out) (fun _ _ => rfl) (fun _ _ => rfl) pot_lineZ pot_partZ HONLY.out
        (fun s w1 h => HG.out.below (by rw [← HHH.out]; exact HKEEP.out s w1 h)) g1 o1 ps[i] (fun s w1 h => hrdw w1 (HKEEP.out s w1 h)) h4 (by omega) x.1 x.2 wr HZ.out (by rw [← HLV.out, ← HPV.out]; exact HLB.out) HLT.out (ps[i]).length c1 rfl hc1 (by have := HMM.out; omega) (by have := HMM.out; omega)
      rw [← HLV.out, ← HPV.out] at hwr
      have HW := Lib.hid hwr
      obtain ⟨q, hq⟩ : ∃ q, q = (ps[i]).length := ⟨_, rfl⟩
      have HQ := Lib.hid hq
      rw [← hq] at hcell' hc1 HW
      clear hwr hbd hfl hrdw hbel hrd hcell hq
      go_wp2_with (go_at_call 50; refine HW.out.mono ?_; rintro e w5 ⟨rfl, hJ5, hL5, hlt5⟩)
      go_roundw
      case rel =>
        refine ⟨i + 1, writeF lineZ partZ cap q (x.1, x.2) ps[i], by go_num, by omega, ?_, hJ5, hL5, hlt5⟩
        show _ = _
        rw [HX.out, HQ.out]
        have h1 : ps.take (i + 1) = ps.take i ++ [ps[i]] := by simp
        rw [h1]
        unfold writesZ
        rw [List.foldl_append]
        rfl
      case measure => simp [intOf]; omega
    · have hNi : i = N := by omega
      subst hNi
      have hbd := writesZ_bound cap (ps.take i)
      rw [← HX.out] at hbd
      have hfl := flatten_take_le ps i
      have hfl2 := @flush_any _ potZ 1000000 (H + 1 + 1 + 1) 0 (H + 1 + 1) cap lv 49 #[] #[.pointer (some ⟨H, 0, none⟩), .pointer (some ⟨H + 1, 0, none⟩)] (fun st w => ZL W1 (H + 4) (H + 1 + 1 + 1) (H + 1 + 1) H (H + 1) st w) partZ
        (by rw [← HPV.out]; exact HC9.out) (fun _ _ => rfl) HONLY.out x.1 x.2 wr HZ.out (by rw [← HPV.out]; exact HLB.out) (by have := HMM.out; omega)
      have HW := Lib.hid hfl2
      clear hbd hfl hfl2
      have HST : Hid ((flushF partZ x.1 x.2).2 = linesZ cap ps) := by
        have : ps.take i = ps := by rw [HN.out, List.take_length]
        show _ = _
        unfold linesZ
        rw [HX.out, this]
      go_wp2_with (go_at_call 51; refine HW.out.mono ?_; rintro e w5 ⟨rfl, hJ5, hL5⟩)
      obtain ⟨vT, vW, xs, hb⟩ := hJ5.box
      rw [HST.out] at hJ5 hb
      have hbel := HKEEP.out _ _ hJ5
      have c4 : w5.cell? ⟨H, 0, none⟩ = some vT := by simp [World.cell?, hb.T]
      have c5 : w5.cell? ⟨H + 1, 0, none⟩ = some vW := by simp [World.cell?, hb.W]
      have f4 : w5.frozen? ⟨H, 0, none⟩ = false := by simp [World.frozen?, hb.T]
      have f5 : w5.frozen? ⟨H + 1, 0, none⟩ = false := by simp [World.frozen?, hb.W]
      have HBX := Lib.hid hb
      have HBE := Lib.hid hbel
      clear hb hJ5 hL5 hbel
      obtain ⟨pT, nT, hvT⟩ := owns_form HBX.out.oT
      obtain ⟨pW, nW, hvW⟩ := owns_form HBX.out.oW
      subst hvT
      subst hvW
      go_region
      all_goals
        rw [setCell_id (w := w5) c4, setCell_id (w := w5) c5]
        go_wp2
        (try simp only [Exit.inBlock, Exit.then])
        refine bodyPost_ret (v := .tuple #[.slice pT (linesZ cap ps).length nT, .slice pW (linesZ cap ps).length nW]) (w := w5.drew) (by rw [results_cell_cell rfl]; go_simp) rfl ?_
        have hb := HBX.out
        refine ⟨_, _, xs, rfl, by rw [← HHH.out]; exact HBE.out.drew, ownsRow_base hb.oT.drew (by rw [← HHH.out]; omega), ownsRow_base hb.oW.drew (by rw [← HHH.out]; omega), fun j hj => ?_⟩
        obtain ⟨g, c, a1, a2, a3, _, _, _, a7⟩ := hb.el j hj
        exact ⟨g, c, a1, a2, by rw [← HHH.out]; omega, a7⟩
end Go.Proofs.YtdljobmhnnegiaaDoor
