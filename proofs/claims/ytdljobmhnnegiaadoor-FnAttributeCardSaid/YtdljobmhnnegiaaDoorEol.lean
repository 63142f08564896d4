/- The contract of indexEOL: over any bytes in memory and any state of the escape it finds what the plain function eolF says. -/
import Derived.Test.YtdljobmhnnegiaaDoorBench
namespace Go.Proofs.YtdljobmhnnegiaaDoor
open Go.RowKit

/-- Where a line ends (place, width), and the state of the escape behind the search. -/
def eolF : Bool → Nat → List UInt8 → Option (Nat × Nat) × Bool
  | e, _, [] => (none, e)
  | e, i, c :: r =>
    if c = 10 then (some (i, 1), e)
    else if e = true then eolF false (i + 1) r
    else if c = 27 then eolF true (i + 1) r
    else if c = 22 ∧ 0 < i then (some (i, 0), e)
    else eolF e (i + 1) r
def posI : Option (Nat × Nat) → Int
  | none => -1
  | some (p, _) => p
def widI : Option (Nat × Nat) → Int
  | none => 0
  | some (_, q) => q

theorem heap_setCell_at {w : World} {b o : Nat} {cs : Array Value} {t : TypeId} {fr : Nat × Nat} (h : w.heap[b]? = some (.cells cs t fr)) (v : Value) :
    (w.setCell ⟨b, o, none⟩ v).heap[b]? = some (.cells (cs.setIfInBounds o v) t fr) := by
  simp only [World.setCell, Array.getElem?_modify, if_true, h, Option.map_some]
  simp

theorem block_of_cell {w : World} {b o : Nat} {v : Value} (h : w.cell? ⟨b, o, none⟩ = some v) : ∃ cs t fr, w.heap[b]? = some (.cells cs t fr) ∧ cs[o]? = some v := by
  unfold World.cell? at h
  simp only at h
  split at h
  · rename_i cs t fr hh
    simp at h
    exact ⟨cs, t, fr, hh, h⟩
  · cases h

theorem world_ext {w w' : World} (h1 : w.tape = w'.tape) (h2 : w.drawn = w'.drawn) (h3 : w.os = w'.os) (h4 : w.output = w'.output) (hh : ∀ k : Nat, w.heap[k]? = w'.heap[k]?) : w = w' := by
  cases w; cases w'
  simp only at h1 h2 h3 h4 hh
  have : _ = _ := Array.ext_getElem? hh
  subst h1; subst h2; subst h3; subst h4; subst this
  rfl

theorem set_same {cs : Array Value} {o : Nat} {v : Value} (h : cs[o]? = some v) : cs.setIfInBounds o v = cs := by
  apply Array.ext_getElem?
  intro j
  rw [Array.getElem?_setIfInBounds]
  split
  · rename_i hj
    subst hj
    split
    · exact h.symm
    · rename_i hlt
      rw [Array.getElem?_eq_none (by omega)] at h; cases h
  · rfl

theorem setCell_id {w : World} {b o : Nat} {v : Value} (h : w.cell? ⟨b, o, none⟩ = some v) : w.setCell ⟨b, o, none⟩ v = w := by
  obtain ⟨cs, t, fr, hh, hc⟩ := block_of_cell h
  refine world_ext rfl rfl rfl rfl fun k => ?_
  by_cases hk : k = b
  · subst hk
    rw [heap_setCell_at hh, set_same hc, hh]
  · exact Below.heap_setCell _ _ _ _ hk

theorem setCell_twice (w : World) (b o : Nat) (v v' : Value) : (w.setCell ⟨b, o, none⟩ v).setCell ⟨b, o, none⟩ v' = w.setCell ⟨b, o, none⟩ v' := by
  refine world_ext rfl rfl rfl rfl fun k => ?_
  by_cases hk : k = b
  · subst hk
    simp only [World.setCell, Array.getElem?_modify, if_true, Option.map_map]
    congr 1
    funext x
    cases x <;> simp
  · rw [Below.heap_setCell _ _ _ _ hk, Below.heap_setCell _ _ _ _ hk, Below.heap_setCell _ _ _ _ hk]

/-- The world with the escape's cell at e. -/
def escW (w : World) (c o : Nat) (e : Bool) : World := w.setCell ⟨c, o + 4, none⟩ (.bool e)
theorem escW_escW (w : World) (c o : Nat) (e e' : Bool) : (escW w c o e).setCell ⟨c, o + 4, none⟩ (.bool e') = escW w c o e' := setCell_twice _ _ _ _ _
theorem escW_cell {w : World} {c o : Nat} {v : Value} (h : w.cell? ⟨c, o + 4, none⟩ = some v) (e : Bool) : (escW w c o e).cell? ⟨c, o + 4, none⟩ = some (.bool e) :=
  World.cell?_setCell_same _ _ _ h
theorem escW_frozen (w : World) (c o : Nat) (e : Bool) (a : Addr) : (escW w c o e).frozen? a = w.frozen? a := World.frozen?_setCell ..
theorem escW_rd {w : World} {c o B off : Nat} {l : List UInt8} (h : Rd w B off l) (hne : B ≠ c) (e : Bool) : Rd (escW w c o e) B off l := by
  intro j hj
  rw [← h j hj]
  exact World.cell?_of_block (Below.heap_setCell _ _ _ _ hne)

/-- What indexEOL leaves. -/
def EolPost (w : World) (c o : Nat) (e : Bool) (l : List UInt8) (en : Ending) (w' : World) : Prop :=
  en = .returned (.tuple #[.int .i64 (posI (eolF e 0 l).1), .int .i64 (widI (eolF e 0 l).1)]) ∧ w' = escW w c o (eolF e 0 l).2

set_option maxRecDepth 100000 in
set_option maxHeartbeats 1000000 in
theorem eol_any {w : World} {c o B off : Nat} {l : List UInt8} {e : Bool} (h : Rd w B off l) (hne : B ≠ c) (hcell : w.cell? ⟨c, o + 4, none⟩ = some (.bool e)) (hfr : w.frozen? ⟨c, o + 4, none⟩ = false)
    (n cap : Nat) (hn : n = l.length) (hbig : n ≤ 140737488351232) :
    Calls Tryd.prog 58 #[.pointer (some ⟨c, o, none⟩), .slice (some ⟨B, off, none⟩) n cap] w (EolPost w c o e l) := by
  have H := Lib.hid h
  have HN := Lib.hid hn
  have HW : Hid (w = escW w c o e) := (setCell_id hcell).symm
  have HC : Hid (∀ e', (escW w c o e').cell? ⟨c, o + 4, none⟩ = some (.bool e')) := fun e' => escW_cell hcell e'
  have HF : Hid (∀ e', (escW w c o e').frozen? ⟨c, o + 4, none⟩ = false) := fun e' => (escW_frozen ..).trans hfr
  clear h hn hcell hfr
  go_enter Tryd.func58, Tryd.ntmps58
  go_wp2
  go_loopw [10] (fun v10 wr => ∃ (i : Nat) (e' : Bool), i ≤ n ∧ v10 = .int .i64 i ∧ wr = escW w c o e' ∧ Hid (eolF e 0 l = eolF e' i (l.drop i))) (fun v10 _ => n - (intOf v10).toNat)
  case atStart => exact ⟨0, e, Nat.zero_le _, rfl, HW.out, rfl⟩
  case round =>
    obtain ⟨i, e', hi, rfl, rfl, HE⟩ := hrel
    by_cases hlt : i < n
    · have hcell := (escW_rd (o := o) H.out hne e') i (by rw [← HN.out]; exact hlt)
      obtain ⟨x, hx⟩ : ∃ x, x = l.getD i 0 := ⟨_, rfl⟩
      rw [← hx] at hcell
      obtain ⟨m, hm⟩ : ∃ m, m = x.toNat := ⟨_, rfl⟩
      rw [← hm] at hcell
      have HD : Hid (l.drop i = x :: l.drop (i + 1)) := by
        have hil : i < l.length := by rw [← HN.out]; exact hlt
        show _ = _
        rw [List.drop_eq_getElem_cons hil, hx]
        simp [List.getD_eq_getElem?_getD, List.getElem?_eq_getElem hil]
      have HM := Lib.hid hm
      clear hx hm
      have hE := HC.out e'
      have hF := HF.out e'
      have HS : Hid (∀ e'', (escW w c o e').setCell ⟨c, o + 4, none⟩ (.bool e'') = escW w c o e'') := fun e'' => escW_escW _ _ _ _ _
      have HX : Hid (∀ k, x = k ↔ m = k.toNat) := fun k => by rw [HM.out]; exact UInt8.toNat_inj.symm
      by_cases c10 : m = 10
      · have b10 : ((m : Int) == 10) = true := by simp; omega
        have C10 := Lib.hid c10; clear c10
        go_wp2
        go_ret2
        refine ⟨?_, ?_⟩
        · rw [HE.out, HD.out]; simp only [eolF]; rw [if_pos ((HX.out 10).2 C10.out)]; rfl
        · rw [HE.out, HD.out]; simp only [eolF]; rw [if_pos ((HX.out 10).2 C10.out)]
      · have b10 : ((m : Int) == 10) = false := by simp; omega
        have C10 := Lib.hid c10; clear c10
        cases e' with
        | true =>
          go_wp2
          go_roundw
          case rel => exact ⟨i + 1, false, by omega, by go_num, HS.out _, by rw [HE.out, HD.out]; simp only [eolF]; rw [if_neg (fun hh => C10.out ((HX.out 10).1 hh))]; rfl⟩
          case measure => simp [intOf]; omega
        | false =>
          by_cases c27 : m = 27
          · have b27 : ((m : Int) == 27) = true := by simp; omega
            have C27 := Lib.hid c27; clear c27
            go_wp2
            go_roundw
            case rel => exact ⟨i + 1, true, by omega, by go_num, HS.out _, by rw [HE.out, HD.out]; simp only [eolF]; rw [if_neg (fun hh => C10.out ((HX.out 10).1 hh)), if_neg (by simp), if_pos ((HX.out 27).2 C27.out)]; rfl⟩
            case measure => simp [intOf]; omega
          · have b27 : ((m : Int) == 27) = false := by simp; omega
            have C27 := Lib.hid c27; clear c27
            by_cases c22 : m = 22
            · have b22 : ((m : Int) == 22) = true := by simp; omega
              have C22 := Lib.hid c22; clear c22
              by_cases h0 : 0 < i
              · go_wp2
                go_ret2
                refine ⟨?_, ?_⟩
                · rw [HE.out, HD.out]; simp only [eolF]; rw [if_neg (fun hh => C10.out ((HX.out 10).1 hh)), if_neg (by simp), if_neg (fun hh => C27.out ((HX.out 27).1 hh)), if_pos ⟨(HX.out 22).2 C22.out, h0⟩]; rfl
                · rw [HE.out, HD.out]; simp only [eolF]; rw [if_neg (fun hh => C10.out ((HX.out 10).1 hh)), if_neg (by simp), if_neg (fun hh => C27.out ((HX.out 27).1 hh)), if_pos ⟨(HX.out 22).2 C22.out, h0⟩]
              · go_wp2
                go_roundw
                case rel => exact ⟨i + 1, false, by omega, by go_num, rfl, by rw [HE.out, HD.out]; simp only [eolF]; rw [if_neg (fun hh => C10.out ((HX.out 10).1 hh)), if_neg (by simp), if_neg (fun hh => C27.out ((HX.out 27).1 hh)), if_neg (fun hh => h0 hh.2)]; rfl⟩
                case measure => simp [intOf]; omega
            · have b22 : ((m : Int) == 22) = false := by simp; omega
              have C22 := Lib.hid c22; clear c22
              go_wp2
              go_roundw
              case rel => exact ⟨i + 1, false, by omega, by go_num, rfl, by rw [HE.out, HD.out]; simp only [eolF]; rw [if_neg (fun hh => C10.out ((HX.out 10).1 hh)), if_neg (by simp), if_neg (fun hh => C27.out ((HX.out 27).1 hh)), if_neg (fun hh => C22.out ((HX.out 22).1 hh.1))]; rfl⟩
              case measure => simp [intOf]; omega
    · have HD : Hid (l.drop i = []) := List.drop_eq_nil_of_le (by rw [← HN.out]; omega)
      go_wp2
      go_ret2
      exact ⟨by rw [HE.out, HD.out]; rfl, by rw [HE.out, HD.out]; rfl⟩

end Go.Proofs.YtdljobmhnnegiaaDoor
