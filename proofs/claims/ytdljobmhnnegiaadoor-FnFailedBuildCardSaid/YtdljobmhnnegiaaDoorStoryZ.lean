/- spec.Story (function 30): the text and the events of tests. -/
import Derived.Test.YtdljobmhnnegiaaDoorZ5
import Derived.Deep.RegionHeld3
namespace Go.Proofs.YtdljobmhnnegiaaDoor
open Go.RowKit

theorem info62 : (Tryd.prog.info? 62).map (fun i => (i.zero, i.size, i.bytes)) = some (some (.agg #[.string ⟨#[]⟩, .string ⟨#[]⟩, .string ⟨#[]⟩, .string ⟨#[]⟩]), 4, 64) := by kernel_rfl
/-- The cells of an event of the reference. -/
def sCells (e : Ev) : List Value := [.string (S e.action), .string (S e.test), .string (S e.output), .string (S e.otype)]
def rowE (es : List Ev) : List Value := (es.map sCells).flatten
theorem rowE_app (a b : List Ev) : rowE (a ++ b) = rowE a ++ rowE b := by unfold rowE; simp
theorem rowE_len (es : List Ev) : (rowE es).length = es.length * 4 := by
  induction es with
  | nil => rfl
  | cons e es ih => unfold rowE at ih ⊢; rw [List.map_cons, List.flatten_cons, List.length_append, ih]; simp [sCells]; omega
/-- Events of the reference, in a row of their own. -/
abbrev ER (H : Nat) (w : World) (v : Value) (es : List Ev) : Prop := w.ownsRow H 62 4 v es.length (rowE es)
theorem eq_S {x : ByteArray} {l : List UInt8} (h : x.data.toList = l) : x = S l := by subst h; rfl

/-- Events in their row, beside a block that stays as it is. -/
structure SB (H b : Nat) (O : Obj) (w0 w : World) (v : Value) (es : List Ev) : Prop where
  below : Below H w0 w
  row : ER H w v es
  blk : w.heap[b]? = some O
  ne : v.ownBlock ≠ some b
  hb : H ≤ b
theorem SB.lt {H b : Nat} {O : Obj} {w0 w : World} {v : Value} {es : List Ev} (h : SB H b O w0 w v es) : b < w.heap.size := by
  rcases Nat.lt_or_ge b w.heap.size with h1 | h1
  · exact h1
  · have := h.blk; rw [Array.getElem?_eq_none h1] at this; cases this
theorem SB.under {H b : Nat} {O : Obj} {w0 w w' : World} {v : Value} {es : List Ev} (h : SB H b O w0 w v es) (hb : Below w.heap.size w w') : SB H b O w0 w' v es :=
  ⟨h.below.trans (hb.mono (Nat.le_of_lt (Nat.lt_of_le_of_lt h.hb h.lt))), ownsRow_same h.row (fun q hq => hb.block q (h.row.lt q hq).2), (hb.block b h.lt).trans h.blk, h.ne, h.hb⟩
theorem SB.alloc {H b : Nat} {O : Obj} {w0 w : World} {v : Value} {es : List Ev} (h : SB H b O w0 w v es) (o : Obj) : SB H b O w0 (w.alloc o) v es := h.under ((Below.refl _ w).alloc (Nat.le_refl _) o)
theorem SB.drew {H b : Nat} {O : Obj} {w0 w : World} {v : Value} {es : List Ev} (h : SB H b O w0 w v es) : SB H b O w0 w.drew v es := h.under (Below.refl _ w).drew
theorem SB.new {H : Nat} {w0 w : World} {v : Value} {es : List Ev} (hb : Below H w0 w) (hr : ER H w v es) (hH : H ≤ w.heap.size) (O : Obj) : SB H w.heap.size O w0 (w.alloc O) v es :=
  ⟨hb.alloc hH O, hr.alloc O, heap_alloc_new _ _, fun he => by have := (hr.lt _ he).2; omega, hH⟩
theorem SB.grown {H b : Nat} {O : Obj} {w0 w w3 : World} {v : Value} {es es' : List Ev} (h : SB H b O w0 w v es) {g c m : Nat} {news : List Value}
    (hown : w3.ownsRow H 62 4 (.slice (some ⟨g, 0, none⟩) (es.length + m) c) (es.length + m) (rowE es ++ news)) (hgrow : w.grownBy w3 v.ownBlock) (hat : v.ownBlock = some g ∨ g = w.heap.size)
    (hes : news = rowE es') (hm : es'.length = m) : SB H b O w0 w3 (.slice (some ⟨g, 0, none⟩) (es.length + m) c) (es ++ es') := by
  subst hes hm
  refine ⟨h.below.grown hgrow (Nat.le_of_lt (Nat.lt_of_le_of_lt h.hb h.lt)) (fun k hk => (h.row.lt k hk).1), ?_, (hgrow.block b h.lt (fun he => h.ne he.symm)).trans h.blk, ?_, h.hb⟩
  · show w3.ownsRow H 62 4 _ (es ++ es').length (rowE (es ++ es'))
    rw [rowE_app, List.length_append]; exact hown
  · intro he
    have he' : g = b := by simpa [Value.ownBlock] using he
    rcases hat with h1 | h1
    · exact h.ne (by rw [h1, he'])
    · have := h.lt; omega
theorem SB.row' {H b : Nat} {O : Obj} {w0 w : World} {es es' : List Ev} {g m c : Nat} (h : SB H b O w0 w (.slice (some ⟨g, 0, none⟩) (es.length + m) c) (es ++ es')) : ER H w (.slice (some ⟨g, 0, none⟩) (es.length + m) c) (es ++ es') := h.row
theorem SB.len {H b : Nat} {O : Obj} {w0 w : World} {v : Value} {es : List Ev} (_h : SB H b O w0 w v es) {n : Nat} (hn : n = es.length) : es.length = n := hn.symm

theorem one4 (a b c d : ByteArray) : ∀ u ∈ ([.string a, .string b, .string c, .string d] : List Value), u.oneCell' = true := by
  intro u hu
  simp only [List.mem_cons, List.not_mem_nil, or_false] at hu
  rcases hu with rfl | rfl | rfl | rfl <;> rfl
theorem one8 (a b c d e f g h : ByteArray) : ∀ u ∈ ([.string a, .string b, .string c, .string d, .string e, .string f, .string g, .string h] : List Value), u.oneCell' = true := by
  intro u hu
  simp only [List.mem_cons, List.not_mem_nil, or_false] at hu
  rcases hu with rfl | rfl | rfl | rfl | rfl | rfl | rfl | rfl <;> rfl

def StoryPost (ts : List TT) (w : World) (e : Ending) (w' : World) : Prop := ∃ v, e = .returned (.tuple #[.string (S (storyL ts).flatten), v]) ∧ (storyL ts).flatten.length ≤ 70000 ∧ Below w.heap.size w w' ∧ ER w.heap.size w' v (storyE ts)

set_option maxRecDepth 100000 in
set_option maxHeartbeats 40000000 in
theorem story_any (v : Value) (ts : List TT) (w : World) (h : TSC w v ts) (hn : ts.length ≤ 20) (hp : ∀ t ∈ ts, ProperT t) : Calls Tryd.prog 30 #[v] w (StoryPost ts w) := by
  obtain ⟨p, cap, rfl, hc, hel⟩ := h
  have HEL := Lib.hid hel
  have HP := Lib.hid hp
  obtain ⟨N, hN⟩ : ∃ N, N = ts.length := ⟨_, rfl⟩
  have HN := Lib.hid hN
  rw [← hN] at hc hn ⊢
  clear hel hN hp
  obtain ⟨H, hH⟩ : ∃ H, H = w.heap.size := ⟨_, rfl⟩
  have HHH := Lib.hid hH
  clear hH
  obtain ⟨i62, hi, hz0, hz1, hz2⟩ := info_parts info62
  go_enter Tryd.func30, Tryd.ntmps30
  go_wp2_with fail
  go_loopw [2, 3, 4, 15] (fun v2 v3 v4 v15 wr => ∃ (i : Nat) (sa : ByteArray) (vo : Value) (es : List Ev), v15 = .int .i64 i ∧ v2 = .string sa ∧ vo = v3 ∧ i ≤ N ∧ v4 = .int .i64 (lastK (ts.take i)) ∧ sa.size ≤ i * 3000 ∧ es.length ≤ i * 30 + 1 ∧
      Hid (sa.data.toList = ((ts.take i).flatMap linesT).flatten) ∧ Hid (es = [Ev.of tstart []] ++ (ts.take i).flatMap fun t => evT t ++ [toldE t]) ∧ Hid (Below H w wr) ∧ Hid (ER H wr vo es)) (fun _ _ _ v15 _ => N - (intOf v15).toNat)
  case atStart =>
    refine ⟨0, _, _, [Ev.of tstart []], rfl, rfl, rfl, Nat.zero_le _, rfl, by decide, by simp, rfl, rfl, ?_, ?_⟩
    · exact (Below.refl H w).alloc (Nat.le_of_eq HHH.out) _
    · exact ⟨rfl, .inr ⟨w.heap.size, 1, _, rfl, Nat.le_of_eq HHH.out, heap_alloc_new _ _, Nat.le_refl _, by unfold maxLen; omega, rfl, rfl⟩⟩
  case round =>
    obtain ⟨i, sa, vo, es, rfl, rfl, rfl, hin, rfl, hsa, hes, HSA, HES, HBr, HER⟩ := hrel
    by_cases hlt : i < N
    · have hil : i < ts.length := by have := HN.out; omega
      obtain ⟨g, hpg, h0, h1, lv, h2, hsc⟩ := HEL.out i hil
      subst hpg
      have hpt := HP.out _ (List.getElem_mem hil)
      obtain ⟨t, ht⟩ : ∃ t, t = ts[i] := ⟨_, rfl⟩
      rw [← ht] at h0 h1 hsc hpt
      have HT := Lib.hid ht
      have hkind := hpt.kind
      have hnl := hpt.len
      have HPT := Lib.hid hpt
      have HSC := Lib.hid hsc
      obtain ⟨p2, c2, rfl, hLc, hsel⟩ := hsc
      have HSEL := Lib.hid hsel
      obtain ⟨L, hL⟩ : ∃ L, L = t.lines.length := ⟨_, rfl⟩
      have hL20 : L ≤ 20 := by rw [hL]; exact hpt.few
      rw [← hL] at h2 hLc HSC
      have HLL := Lib.hid hL
      have hbw : Below w.heap.size w wr := by rw [← HHH.out]; exact HBr.out
      have d0 := cellB hbw h0
      have d1 := cellB hbw h1
      have d2 := cellB hbw h2
      have hH : H ≤ wr.heap.size := by rw [HHH.out]; exact hbw.size
      clear h0 h1 h2 hpt hL ht hbw hsel
      obtain ⟨nm, hnm⟩ : ∃ nm, nm = S t.name := ⟨_, rfl⟩
      have hns : nm.size ≤ 50 := by rw [hnm, S_size]; exact hnl
      have HNM : Hid (nm = S t.name) := hnm
      rw [← hnm] at d0
      obtain ⟨k, hk⟩ : ∃ k, k = t.kind := ⟨_, rfl⟩
      rw [← hk] at d1 hkind
      have HK := Lib.hid hk
      clear hnm hk
      go_wp2_with fail
      obtain ⟨b, hbb⟩ : ∃ b, b = wr.heap.size := ⟨_, rfl⟩
      obtain ⟨O, hO⟩ : ∃ O, O = Obj.cells #[.string nm, .int .i64 k, .slice p2 L c2] 36 := ⟨_, rfl⟩
      have HO := Lib.hid hO
      rw [← hO, ← hbb]
      clear hO
      have HSB0 : Hid (SB H b O w (wr.alloc O) vo es) := by rw [hbb]; exact SB.new HBr.out HER.out hH O
      have HBB := Lib.hid hbb
      clear hbb
      have HCELL : Hid (∀ w' : World, w'.heap[b]? = some O → w'.cell? ⟨b, 0, none⟩ = some (.string nm) ∧ w'.cell? ⟨b, 1, none⟩ = some (.int .i64 k) ∧ w'.cell? ⟨b, 2, none⟩ = some (.slice p2 L c2)) := by
        intro w' hb
        rw [HO.out] at hb
        simp only [World.cell?, hb]
        exact ⟨rfl, rfl, rfl⟩
      have hel4 : (S (endedL k)).size = 4 := by rw [S_size]; exact ended_short k
      have e1 : ¬ 9223372036854775807 < 10 + nm.size := by omega
      have e2 : ¬ 9223372036854775807 < 10 + nm.size + 1 := by omega
      have e3 : ¬ 9223372036854775807 < 4 + (S (endedL k)).size := by omega
      have e3b : ¬ 9223372036854775807 < 4 + (S (endedL k)).size + 2 := by omega
      have e4 : ¬ 9223372036854775807 < 4 + (S (endedL k)).size + 2 + nm.size := by omega
      have e5 : ¬ 9223372036854775807 < 10 + nm.size + 9 := by omega
      have hc1 := (HCELL.out _ HSB0.out.blk).1
      have hc2 := (HCELL.out _ HSB0.out.blk).2.1
      go_region_held3 (fun w' => w'.cell? ⟨b, 0, none⟩ = some (.string nm) ∧ w'.cell? ⟨b, 1, none⟩ = some (.int .i64 k)) (first | go_keep | exact ⟨(HCELL.out _ (HSB0.out.drew.under hb1).blk).1, (HCELL.out _ (HSB0.out.drew.under hb1).blk).2.1⟩) ((refine (ended_any k hkind _).mono ?_; rintro e w1 ⟨rfl, hb1⟩))
      have HSB1 : Hid (SB H b O w w1 vo es) := HSB0.out.drew.under hb1
      clear hb1 HSB0 hc1 hc2 e1 e2 e3 e3b e4 e5
      generalize hbg : ((⟨#[61, 61, 61, 32, 82, 85, 78, 32, 32, 32]⟩ : ByteArray) ++ nm ++ (⟨#[10]⟩ : ByteArray)) = bg
      generalize hed : ((⟨#[45, 45, 45, 32]⟩ : ByteArray) ++ S (endedL k) ++ (⟨#[58, 32]⟩ : ByteArray) ++ nm ++ (⟨#[32, 40, 48, 46, 48, 48, 115, 41, 10]⟩ : ByteArray)) = ed
      have HBG : Hid (bg = S (beginL t ++ [10])) := eq_S (by rw [← hbg, HNM.out]; simp [beginL, tRun])
      have HED : Hid (ed = S (endL t ++ [10])) := eq_S (by rw [← hed, HNM.out, HK.out]; simp [endL, tTime])
      have hbgs : bg.size ≤ 69 := by rw [← hbg, ByteArray.size_append, ByteArray.size_append]; show 10 + nm.size + 1 ≤ _; omega
      have heds : ed.size ≤ 69 := by rw [← hed, ByteArray.size_append, ByteArray.size_append, ByteArray.size_append, ByteArray.size_append, hel4]; show 4 + 4 + 2 + nm.size + 9 ≤ _; omega
      clear hbg hed hel4
      have a1 : ¬ 9223372036854775807 < 1 + bg.size := by omega
      have a2 : ¬ 9223372036854775807 < sa.size + (1 + bg.size) := by omega
      have hc0 := (HCELL.out _ HSB1.out.blk).1
      go_wp2_with (at_builtin; refine wpList_append_lies _ rfl (.tmp 36) (.tmp 44) 52 rfl H 62 i62 _ 4 64 Tryd.underlying52 hi hz0 hz1 hz2 rfl (by decide) _ es.length (rowE es) rfl (HSB1.out.alloc _).row ⟨w1.heap.size, 0, none⟩ 2 2 [.string ⟨#[114, 117, 110]⟩, .string nm, .string ⟨#[]⟩, .string ⟨#[]⟩, .string ⟨#[111, 117, 116, 112, 117, 116]⟩, .string nm, .string bg, .string ⟨#[102, 114, 97, 109, 101]⟩] rfl rfl (World.news_of_block (cs := #[.string ⟨#[114, 117, 110]⟩, .string nm, .string ⟨#[]⟩, .string ⟨#[]⟩, .string ⟨#[111, 117, 116, 112, 117, 116]⟩, .string nm, .string bg, .string ⟨#[102, 114, 97, 109, 101]⟩]) (heap_alloc_new _ _)) (one8 _ _ _ _ _ _ _ _) (by decide) (by unfold maxLen; omega) (by omega) (by rw [size_alloc]; have := HSB1.out.hb; have := HSB1.out.lt; omega) _ rfl ?_; intro g2 q2 w2 hown hgrow hat _; have HSB2 : Hid (SB H b O w w2 (.slice (some ⟨g2, 0, none⟩) (es.length + 2) q2) (es ++ [Ev.of trun t.name, Ev.outT (beginL t ++ [10]) tframe t.name])) := (HSB1.out.alloc _).grown hown hgrow hat (by rw [HNM.out, HBG.out]; rfl) rfl; have hc2 := (HCELL.out _ HSB2.out.blk).2.2; clear hown hgrow hat)
      clear hc0 a1 a2
      generalize hs1 : sa ++ ((⟨#[22]⟩ : ByteArray) ++ bg) = s1
      have HS1 : Hid (s1.data.toList = sa.data.toList ++ (22 :: (beginL t ++ [10]))) := by show _ = _; rw [← hs1, HBG.out]; simp
      have hs1s : s1.size ≤ sa.size + 70 := by rw [← hs1, ByteArray.size_append, ByteArray.size_append]; show sa.size + (1 + bg.size) ≤ _; omega
      clear hs1
      go_loopw [2, 3, 49] (fun v2 v3 v49 wr => ∃ (j : Nat) (s2 : ByteArray) (vj : Value) (ej : List Ev), v49 = .int .i64 j ∧ v2 = .string s2 ∧ vj = v3 ∧ j ≤ L ∧ s2.size ≤ i * 3000 + 70 + j * 110 ∧ ej.length ≤ es.length + 2 + j ∧
          Hid (s2.data.toList = sa.data.toList ++ (22 :: (beginL t ++ [10])) ++ ((t.lines.take j).map (· ++ [10])).flatten) ∧ Hid (ej = es ++ [Ev.of trun t.name, Ev.outT (beginL t ++ [10]) tframe t.name] ++ (t.lines.take j).map fun l => Ev.outT (l ++ [10]) [] t.name) ∧ Hid (SB H b O w wr vj ej)) (fun _ _ v49 _ => L - (intOf v49).toNat)
      case atStart =>
        exact ⟨0, s1, _, _, rfl, rfl, rfl, Nat.zero_le _, by omega, by rw [List.length_append]; exact Nat.le_refl _, by show _ = _; rw [HS1.out]; simp, by show _ = _; simp, HSB2.out⟩
      case round =>
        obtain ⟨j, s2, vj, ej, rfl, rfl, rfl, hjL, hs2, hej, HS2, HEJ, HSBj⟩ := hrel
        by_cases hltL : j < L
        · have hjl : j < t.lines.length := by have := HLL.out; omega
          obtain ⟨gl, ol, hpl, hcl⟩ := HSEL.out j hjl
          subst hpl
          have hbj : Below w.heap.size w wr := by rw [← HHH.out]; exact HSBj.out.below
          have hcl' := cellB hbj hcl
          have hlp := HPT.out.lines _ (List.getElem_mem hjl)
          obtain ⟨x, hx⟩ : ∃ x, x = S t.lines[j] := ⟨_, rfl⟩
          have hxs : x.size ≤ 100 := by rw [hx, S_size]; exact hlp.2.2
          rw [← hx] at hcl'
          have HX := Lib.hid hx
          have hc0 := (HCELL.out _ HSBj.out.blk).1
          have a1 : ¬ 9223372036854775807 < x.size + 1 := by omega
          have a2 : ¬ 9223372036854775807 < s2.size + (x.size + 1) := by omega
          clear hcl hbj hlp hx
          go_wp2_with (at_builtin; refine wpList_append_lies _ rfl (.tmp 57) (.tmp 63) 52 rfl H 62 i62 _ 4 64 Tryd.underlying52 hi hz0 hz1 hz2 rfl (by decide) _ ej.length (rowE ej) rfl (HSBj.out.alloc _).row ⟨wr.heap.size, 0, none⟩ 1 1 [.string ⟨#[111, 117, 116, 112, 117, 116]⟩, .string nm, .string (x ++ ⟨#[10]⟩), .string ⟨#[]⟩] rfl rfl (World.news_of_block (cs := #[.string ⟨#[111, 117, 116, 112, 117, 116]⟩, .string nm, .string (x ++ ⟨#[10]⟩), .string ⟨#[]⟩]) (heap_alloc_new _ _)) (one4 _ _ _ _) (by decide) (by unfold maxLen; omega) (by omega) (by rw [size_alloc]; have := HSBj.out.hb; have := HSBj.out.lt; omega) _ rfl ?_; intro g3 q3 w3 hown hgrow hat _)
          have HSB3 : Hid (SB H b O w w3 (.slice (some ⟨g3, 0, none⟩) (ej.length + 1) q3) (ej ++ [Ev.outT (t.lines[j] ++ [10]) [] t.name])) := (HSBj.out.alloc _).grown hown hgrow hat (by
            have hxe : x ++ (⟨#[10]⟩ : ByteArray) = S (t.lines[j] ++ [10]) := eq_S (by rw [HX.out]; simp)
            rw [HNM.out, hxe]; rfl) rfl
          clear hown hgrow hat
          go_roundw
          case rel =>
            refine ⟨j + 1, _, _, ej ++ [Ev.outT (t.lines[j] ++ [10]) [] t.name], by go_num, rfl, rfl, by omega, ?_, by simp; omega, ?_, ?_, HSB3.out⟩
            · rw [ByteArray.size_append, ByteArray.size_append]; show s2.size + (x.size + 1) ≤ _; omega
            · show _ = _
              rw [List.take_succ_eq_append_getElem hjl, List.map_append, List.flatten_append, ← List.append_assoc, ← HS2.out, HX.out]
              simp
            · show _ = _
              rw [List.take_succ_eq_append_getElem hjl, List.map_append, ← List.append_assoc, ← HEJ.out]
              rfl
          case measure => simp [intOf]; omega
        · have hjL' : j = L := by omega
          have HS3 : Hid (s2.data.toList = sa.data.toList ++ (22 :: (beginL t ++ [10])) ++ (t.lines.map (· ++ [10])).flatten) := by
            have := HS2.out
            rwa [List.take_of_length_le (by have := HLL.out; omega)] at this
          have HE3 : Hid (ej = es ++ [Ev.of trun t.name, Ev.outT (beginL t ++ [10]) tframe t.name] ++ t.lines.map fun l => Ev.outT (l ++ [10]) [] t.name) := by
            have := HEJ.out
            rwa [List.take_of_length_le (by have := HLL.out; omega)] at this
          have a1 : ¬ 9223372036854775807 < 1 + ed.size := by omega
          have a2 : ¬ 9223372036854775807 < s2.size + (1 + ed.size) := by omega
          clear HS2 HEJ
          have hc0 := (HCELL.out _ HSBj.out.blk).1
          have hc1 := (HCELL.out _ HSBj.out.blk).2.1
          go_wp2_with fail
          generalize hs3 : s2 ++ ((⟨#[22]⟩ : ByteArray) ++ ed) = s3
          have HS4 : Hid (s3.data.toList = sa.data.toList ++ (linesT t).flatten) := by
            show _ = _
            rw [← hs3, HED.out]
            simp only [ByteArray.data_append, Array.toList_append, HS3.out]
            simp [linesT]
          have hs3s : s3.size ≤ (i + 1) * 3000 := by rw [← hs3, ByteArray.size_append, ByteArray.size_append]; show s2.size + (1 + ed.size) ≤ _; omega
          clear hs3 a1 a2
          go_region_held3 (fun w' => w'.cell? ⟨b, 0, none⟩ = some (.string nm) ∧ w'.cell? ⟨b, 1, none⟩ = some (.int .i64 k)) (first | go_keep | exact ⟨(HCELL.out _ HSB5.out.blk).1, (HCELL.out _ HSB5.out.blk).2.1⟩ | exact ⟨(HCELL.out _ (HSBj.out.drew.under hb4).blk).1, (HCELL.out _ (HSBj.out.drew.under hb4).blk).2.1⟩) ((first | (refine (told_any k hkind _).mono ?_; rintro e w4 ⟨rfl, hb4⟩) | (refine step_append_lies _ rfl (.tmp 70) (.tmp 81) 52 rfl H 62 i62 _ 4 64 Tryd.underlying52 hi hz0 hz1 hz2 rfl (by decide) vj ej.length (rowE ej) (by rfl) (by first | exact ((HSBj.out.drew.under hb4).alloc _).row) ⟨w4.heap.size, 0, none⟩ 2 2 [.string ⟨#[111, 117, 116, 112, 117, 116]⟩, .string nm, .string ed, .string ⟨#[102, 114, 97, 109, 101]⟩, .string (S (toldL k)), .string nm, .string ⟨#[]⟩, .string ⟨#[]⟩] (by rfl) rfl (World.news_of_block (cs := #[.string ⟨#[111, 117, 116, 112, 117, 116]⟩, .string nm, .string ed, .string ⟨#[102, 114, 97, 109, 101]⟩, .string (S (toldL k)), .string nm, .string ⟨#[]⟩, .string ⟨#[]⟩]) (heap_alloc_new _ _)) (one8 _ _ _ _ _ _ _ _) (by decide) (by unfold maxLen; omega) (by omega) (by rw [size_alloc]; have := (HSBj.out.drew.under hb4).hb; have := (HSBj.out.drew.under hb4).lt; omega) _ rfl ?_; intro g5 q5 w5 hown5 hgrow5 hat5 _; have HSB5 : Hid (SB H b O w w5 (.slice (some ⟨g5, 0, none⟩) (ej.length + 2) q5) (ej ++ [Ev.outT (endL t ++ [10]) tframe t.name, toldE t])) := ((HSBj.out.drew.under hb4).alloc _).grown hown5 hgrow5 hat5 (by rw [HNM.out, HED.out, HK.out]; rfl) rfl; clear hown5 hgrow5 hat5)))
          have hc5 := (HCELL.out _ HSB5.out.blk).2.1
          have HES5 : Hid (ej ++ [Ev.outT (endL t ++ [10]) tframe t.name, toldE t] = [Ev.of tstart []] ++ (ts.take (i + 1)).flatMap fun t => evT t ++ [toldE t]) := by
            show _ = _
            rw [List.take_succ_eq_append_getElem hil, List.flatMap_append, ← List.append_assoc, ← HES.out, HE3.out, ← HT.out]
            simp [evT]
          have HSA5 : Hid (s3.data.toList = ((ts.take (i + 1)).flatMap linesT).flatten) := by
            show _ = _
            rw [List.take_succ_eq_append_getElem hil, List.flatMap_append, List.flatten_append, ← HSA.out, HS4.out, ← HT.out]
            simp
          by_cases k1 : k = 1
          · have b1 : ((k : Int) == 1) = true := by simp; omega
            have HLK : Hid ((1 : Int) = lastK (ts.take (i + 1))) := by
              show _ = _
              unfold lastK
              rw [if_pos (List.any_eq_true.2 ⟨ts[i], by rw [List.take_succ_eq_append_getElem hil]; exact List.mem_append_right _ (List.mem_singleton.2 rfl), by rw [← HT.out, ← HK.out, k1]; rfl⟩)]
              rfl
            go_wp2_with fail
            go_roundw
            case rel =>
              exact ⟨i + 1, s3, _, _, by go_num, rfl, rfl, by omega, by rw [HLK.out], by omega, by simp; omega, HSA5.out, HES5.out, HSB5.out.below, HSB5.out.row'⟩
            case measure => simp [intOf]; omega
          · have b1 : ((k : Int) == 1) = false := by simp; omega
            have HLK : Hid (lastK (ts.take i) = lastK (ts.take (i + 1))) := by
              show _ = _
              unfold lastK
              have : [ts[i]].any (fun t => t.kind == 1) = false := by rw [← HT.out]; have := HK.out; simp; omega
              rw [List.take_succ_eq_append_getElem hil, List.any_append, this, Bool.or_false]
            go_wp2_with fail
            go_roundw
            case rel =>
              exact ⟨i + 1, s3, _, _, by go_num, rfl, rfl, by omega, by rw [HLK.out], by omega, by simp; omega, HSA5.out, HES5.out, HSB5.out.below, HSB5.out.row'⟩
            case measure => simp [intOf]; omega
    · have hiN : i = N := by omega
      have HTK : Hid (ts.take i = ts) := List.take_of_length_le (by have := HN.out; omega)
      have HSA2 : Hid (sa.data.toList = (ts.flatMap linesT).flatten) := by have := HSA.out; rwa [HTK.out] at this
      have HES2 : Hid (es = [Ev.of tstart []] ++ ts.flatMap fun t => evT t ++ [toldE t]) := by have := HES.out; rwa [HTK.out] at this
      rw [HTK.out]
      obtain ⟨kk, hkk⟩ : ∃ kk, kk = lastK ts := ⟨_, rfl⟩
      rw [← hkk]
      have hk1 : kk ≤ 1 := by rw [hkk]; exact lastK_le ts
      have hk2 : kk ≤ 2 := by omega
      have HKK := Lib.hid hkk
      have hH : H ≤ wr.heap.size := by rw [HHH.out]; have := HBr.out.size; exact this
      clear hkk HSA HES
      have hel4 : (S (endedL kk)).size = 4 := by rw [S_size]; exact ended_short kk
      have a1 : ¬ 9223372036854775807 < 1 + (S (endedL kk)).size := by omega
      have a2 : ¬ 9223372036854775807 < 1 + (S (endedL kk)).size + 1 := by omega
      have a3 : ¬ 9223372036854775807 < sa.size + (1 + (S (endedL kk)).size + 1) := by omega
      have a4 : ¬ 9223372036854775807 < (S (endedL kk)).size + 1 := by omega
      go_wp2_with fail
      refine (ended_any kk hk2 _).mono ?_
      rintro e w4 ⟨rfl, hb4⟩
      have HB4 : Hid (Below H w w4) := HBr.out.trans (hb4.mono hH)
      have HR4 : Hid (ER H w4 vo es) := ownsRow_same HER.out (fun q hq => hb4.block q (HER.out.lt q hq).2)
      have hH4 : H ≤ w4.heap.size := Nat.le_trans hH hb4.size
      clear hb4
      dsimp only
      go_wp2_with fail
      refine (ended_any kk hk2 _).mono ?_
      rintro e w5 ⟨rfl, hb5⟩
      have HB5 : Hid (Below H w w5) := HB4.out.trans (hb5.mono hH4)
      have HR5 : Hid (ER H w5 vo es) := ownsRow_same HR4.out (fun q hq => hb5.block q (HR4.out.lt q hq).2)
      have hH5 : H ≤ w5.heap.size := Nat.le_trans hH4 hb5.size
      clear hb5
      dsimp only
      go_wp2_with fail
      refine (told_any kk hk2 _).mono ?_
      rintro e w6 ⟨rfl, hb6⟩
      have HB6 : Hid (Below H w w6) := HB5.out.trans (hb6.mono hH5)
      have HR6 : Hid (ER H w6 vo es) := ownsRow_same HR5.out (fun q hq => hb6.block q (HR5.out.lt q hq).2)
      have hH6 : H ≤ w6.heap.size := Nat.le_trans hH5 hb6.size
      clear hb6
      dsimp only
      go_wp2_with (at_builtin; refine wpList_append_lies _ rfl (.tmp 94) (.tmp 102) 52 rfl H 62 i62 _ 4 64 Tryd.underlying52 hi hz0 hz1 hz2 rfl (by decide) _ es.length (rowE es) rfl (HR6.out.alloc _) ⟨w6.heap.size, 0, none⟩ 2 2 [.string ⟨#[111, 117, 116, 112, 117, 116]⟩, .string ⟨#[]⟩, .string (S (endedL kk) ++ ⟨#[10]⟩), .string ⟨#[102, 114, 97, 109, 101]⟩, .string (S (toldL kk)), .string ⟨#[]⟩, .string ⟨#[]⟩, .string ⟨#[]⟩] rfl rfl (World.news_of_block (cs := #[.string ⟨#[111, 117, 116, 112, 117, 116]⟩, .string ⟨#[]⟩, .string (S (endedL kk) ++ ⟨#[10]⟩), .string ⟨#[102, 114, 97, 109, 101]⟩, .string (S (toldL kk)), .string ⟨#[]⟩, .string ⟨#[]⟩, .string ⟨#[]⟩]) (heap_alloc_new _ _)) (one8 _ _ _ _ _ _ _ _) (by decide) (by unfold maxLen; omega) (by omega) (by rw [size_alloc]; omega) _ rfl ?_; intro g7 q7 w7 hown hgrow hat _)
      refine bodyPost_ret (results_tmp2 rfl _ _ _) rfl ?_
      have hte : sa ++ ((⟨#[22]⟩ : ByteArray) ++ S (endedL kk) ++ (⟨#[10]⟩ : ByteArray)) = S (storyL ts).flatten := eq_S (by
        simp only [ByteArray.data_append, Array.toList_append, HSA2.out]
        simp [storyL, ← HKK.out])
      have hxe : S (endedL kk) ++ (⟨#[10]⟩ : ByteArray) = S (endedL kk ++ [10]) := eq_S (by simp)
      refine ⟨.slice (some ⟨g7, 0, none⟩) (es.length + 2) q7, ?_, ?_, ?_, ?_⟩
      · show Ending.returned (.tuple #[.string (sa ++ ((⟨#[22]⟩ : ByteArray) ++ S (endedL kk) ++ (⟨#[10]⟩ : ByteArray))), .slice (some ⟨g7, 0, none⟩) (es.length + 2) q7]) = _
        rw [hte]
      · rw [← S_size, ← hte, ByteArray.size_append, ByteArray.size_append, ByteArray.size_append, hel4]
        show sa.size + (1 + 4 + 1) ≤ _
        omega
      · rw [← HHH.out]
        exact (HB6.out.alloc hH6 _).grown hgrow (by rw [size_alloc]; omega) (fun q hq => (HR6.out.lt q hq).1)
      · rw [← HHH.out]
        have hse : storyE ts = es ++ [Ev.outT (endedL kk ++ [10]) tframe [], Ev.of (toldL kk) []] := by rw [HES2.out, HKK.out]; rfl
        show w7.ownsRow H 62 4 _ (storyE ts).length (rowE (storyE ts))
        rw [hse, rowE_app, List.length_append]
        rw [hxe] at hown
        exact hown

end Go.Proofs.YtdljobmhnnegiaaDoor
