/- spec.Valid (16), mark (34), Marked (17), Tabbed (18). -/
import Derived.Test.YtdljobmhnnegiaaDoorBase
import Derived.Laws.RangeAny
namespace Go.Proofs.YtdljobmhnnegiaaDoor
open Go.RowKit

/-- Whether no character from p on is U+FFFD (n rounds). -/
def vld (s : ByteArray) : Nat → Nat → Bool
  | 0, _ => true
  | n + 1, p => if p < s.size then (if (Utf8.decode s p).1 = 65533 then false else vld s n (p + (Utf8.decode s p).2)) else true

theorem decode_pos (s : ByteArray) (pos : Nat) (h : pos < s.size) : 1 ≤ (Utf8.decode s pos).2 := by
  by_cases ha : (s[pos]'h).toNat < 128
  · rw [decode_ascii s pos h ha]; exact Nat.le_refl 1
  · exact (decode_high s pos h (by omega)).2

theorem vld_fuel (s : ByteArray) : ∀ (n m p : Nat), s.size - p ≤ n → s.size - p ≤ m → vld s n p = vld s m p
  | 0, 0, _, _, _ => rfl
  | 0, m + 1, p, h, _ => by simp only [vld]; rw [if_neg (by omega)]
  | n + 1, 0, p, _, h => by simp only [vld]; rw [if_neg (by omega)]
  | n + 1, m + 1, p, h, h' => by
    simp only [vld]
    by_cases hp : p < s.size
    · have := decode_pos s p hp
      rw [if_pos hp, if_pos hp, vld_fuel s n m _ (by omega) (by omega)]
    · rw [if_neg hp, if_neg hp]

/-- The plain answer. -/
def vldB (s : ByteArray) : Bool := vld s s.size 0
/-- The rest's answer. -/
def vldR (s : ByteArray) (p : Nat) : Bool := vld s s.size p
theorem vldR_end (s : ByteArray) (p : Nat) (h : ¬ p < s.size) : vldR s p = true := by
  unfold vldR; rw [vld_fuel s s.size 0 p (by omega) (by omega)]; rfl
theorem vldR_bad (s : ByteArray) (p : Nat) (h : p < s.size) (h1 : (Utf8.decode s p).1 = 65533) : vldR s p = false := by
  unfold vldR; rw [vld_fuel s s.size (s.size + 1) p (by omega) (by omega)]; simp only [vld]; rw [if_pos h, if_pos h1]
theorem vldR_step (s : ByteArray) (p : Nat) (h : p < s.size) (h1 : ¬ (Utf8.decode s p).1 = 65533) : vldR s p = vldR s (p + (Utf8.decode s p).2) := by
  unfold vldR; rw [vld_fuel s s.size (s.size + 1) p (by omega) (by omega)]; simp only [vld]; rw [if_pos h, if_neg h1]

set_option maxHeartbeats 400000 in
theorem valid_any (s : ByteArray) (w : World) :
    Calls Tryd.prog 16 #[.string s] w fun e w' => e = .returned (.bool (vldB s)) ∧ ∃ p, w' = w.alloc (.stringIter s p) := by
  go_enter Tryd.func16, Tryd.ntmps16
  go_wp2
  go_loopw [7] (fun _ wr => ∃ p, wr = w.iter s p ∧ Hid (vldB s = vldR s p)) (fun _ wr => s.size - wr.iterPos w.heap.size)
  case atStart => exact ⟨0, rfl, rfl⟩
  case round =>
    obtain ⟨p, rfl, H⟩ := hrel
    by_cases hp : p < s.size
    · have hn := fun ty => run_next_any (P := Tryd.prog) w s p ty hp
      have hd := decode_pos s p hp
      have hl := decode_le s p
      go_wp2
      · have hb : (Utf8.decode s p).1 = 65533 := by
          have h : (((Utf8.decode s p).1 : Int) == 65533) = true := by assumption
          simp at h; omega
        go_ret
        exact ⟨by rw [H.out, vldR_bad s p hp hb]; rfl, _, rfl⟩
      · have hb : ¬ (Utf8.decode s p).1 = 65533 := by
          have h : (((Utf8.decode s p).1 : Int) == 65533) = false := by assumption
          simp at h; omega
        refine ⟨⟨_, rfl, ?_⟩, ?_⟩
        · exact H.out.trans (vldR_step s p hp hb)
        · rw [World.iterPos_iter, World.iterPos_iter]; omega
    · have hn := fun ty => run_next_end (P := Tryd.prog) w s p ty hp
      go_wp2
      go_ret
      exact ⟨by rw [H.out, vldR_end s p hp]; rfl, _, rfl⟩


/-- Whether a byte is a marker. -/
def markN (m : Nat) : Bool := m == 22 || m == 15 || m == 14 || m == 27

set_option maxRecDepth 100000 in
theorem mark_any (m : Nat) (w : World) : Calls Tryd.prog 34 #[.int .u8 m] w fun e w' => e = .returned (.bool (markN m)) ∧ w = w' := by
  have e1 : ((m : Int) == 22) = (m == 22) := by rw [Bool.eq_iff_iff, beq_iff_eq, beq_iff_eq]; omega
  have e2 : ((m : Int) == 15) = (m == 15) := by rw [Bool.eq_iff_iff, beq_iff_eq, beq_iff_eq]; omega
  have e3 : ((m : Int) == 14) = (m == 14) := by rw [Bool.eq_iff_iff, beq_iff_eq, beq_iff_eq]; omega
  have e4 : ((m : Int) == 27) = (m == 27) := by rw [Bool.eq_iff_iff, beq_iff_eq, beq_iff_eq]; omega
  obtain ⟨b1, h1⟩ : ∃ b, b = (m == 22) := ⟨_, rfl⟩
  obtain ⟨b2, h2⟩ : ∃ b, b = (m == 15) := ⟨_, rfl⟩
  obtain ⟨b3, h3⟩ : ∃ b, b = (m == 14) := ⟨_, rfl⟩
  obtain ⟨b4, h4⟩ : ∃ b, b = (m == 27) := ⟨_, rfl⟩
  unfold markN
  rw [← h1] at e1 ⊢
  rw [← h2] at e2 ⊢
  rw [← h3] at e3 ⊢
  rw [← h4] at e4 ⊢
  clear h1 h2 h3 h4
  go_enter Tryd.func34, Tryd.ntmps34
  cases b1 <;> cases b2 <;> cases b3 <;> cases b4 <;>
  (go_wp2
   go_ret
   exact ⟨rfl, rfl⟩)

theorem any_take_all (l : List UInt8) (f : UInt8 → Bool) (i : Nat) (hi : ¬ i < l.length) (h : (l.take i).any f = false) : l.any f = false := by
  rwa [List.take_of_length_le (by omega)] at h
theorem any_take_succ (l : List UInt8) (f : UInt8 → Bool) (i : Nat) (hi : i < l.length) (h : (l.take i).any f = false) (h2 : f l[i] = false) : (l.take (i + 1)).any f = false := by
  rw [List.take_succ_eq_append_getElem hi, List.any_append, h]
  simp [h2]
theorem any_at (l : List UInt8) (f : UInt8 → Bool) (i : Nat) (hi : i < l.length) (h2 : f l[i] = true) : l.any f = true := List.any_eq_true.2 ⟨l[i], List.getElem_mem hi, h2⟩

/-- Markers; tabs. -/
def markedB (l : List UInt8) : Bool := l.any fun c => markN c.toNat
def tabbedB (l : List UInt8) : Bool := l.any fun c => c.toNat == 9

set_option maxRecDepth 100000 in
theorem marked_any (s : ByteArray) (w : World) (hs : s.size ≤ 140737488351232) : Calls Tryd.prog 17 #[.string s] w fun e w' => e = .returned (.bool (markedB s.data.toList)) ∧ w = w' := by
  go_enter Tryd.func17, Tryd.ntmps17
  go_wp2
  go_loop [6] (fun v6 => ∃ i : Nat, i ≤ s.size ∧ v6 = .int .i64 i ∧ Hid ((s.data.toList.take i).any (fun c => markN c.toNat) = false)) (fun i => s.size - (intOf i).toNat)
  case atStart => exact ⟨0, Nat.zero_le _, rfl, rfl⟩
  case round =>
    obtain ⟨i, hi, rfl, HA⟩ := hrel
    by_cases hlt : i < s.size
    · have hll : i < s.data.toList.length := by simpa using hlt
      have e : s.data.toList[i] = s[i]'hlt := rfl
      obtain ⟨m, hm⟩ : ∃ m, m = (s[i]'hlt).toNat := ⟨_, rfl⟩
      have hms : ((s[i]'hlt).toNat : Int) = (m : Int) := by rw [hm]
      obtain ⟨b, hb⟩ : ∃ b, b = markN m := ⟨_, rfl⟩
      have hc := fun w => mark_any m w
      rw [← hb] at hc
      have HC := Lib.hid hc
      have HM := Lib.hid hm
      have HBB := Lib.hid hb
      clear hm hb hc
      cases b with
      | true =>
        go_wp2_with (go_at_call 34; refine (HC.out _).mono ?_; rintro e w' ⟨rfl, rfl⟩)
        go_ret
        refine ⟨ret_bool ?_, rfl⟩
        exact (any_at _ (fun c => markN c.toNat) i hll (by rw [e, ← HM.out, ← HBB.out])).symm
      | false =>
        go_wp2_with (go_at_call 34; refine (HC.out _).mono ?_; rintro e w' ⟨rfl, rfl⟩)
        go_round
        case rel => exact ⟨i + 1, by omega, by go_num, any_take_succ _ _ i hll HA.out (by rw [e, ← HM.out, ← HBB.out])⟩
        case measure => simp [intOf]; omega
    · go_wp2
      go_ret
      refine ⟨ret_bool ?_, rfl⟩
      exact (any_take_all _ _ i (by simpa using hlt) HA.out).symm

set_option maxRecDepth 100000 in
theorem tabbed_any (s : ByteArray) (w : World) (hs : s.size ≤ 140737488351232) : Calls Tryd.prog 18 #[.string s] w fun e w' => e = .returned (.bool (tabbedB s.data.toList)) ∧ w = w' := by
  go_enter Tryd.func18, Tryd.ntmps18
  go_wp2
  go_loop [6] (fun v6 => ∃ i : Nat, i ≤ s.size ∧ v6 = .int .i64 i ∧ Hid ((s.data.toList.take i).any (fun c => c.toNat == 9) = false)) (fun i => s.size - (intOf i).toNat)
  case atStart => exact ⟨0, Nat.zero_le _, rfl, rfl⟩
  case round =>
    obtain ⟨i, hi, rfl, HA⟩ := hrel
    by_cases hlt : i < s.size
    · have hll : i < s.data.toList.length := by simpa using hlt
      have e : s.data.toList[i] = s[i]'hlt := rfl
      obtain ⟨m, hm⟩ : ∃ m, m = (s[i]'hlt).toNat := ⟨_, rfl⟩
      have hms : ((s[i]'hlt).toNat : Int) = (m : Int) := by rw [hm]
      have HM := Lib.hid hm
      clear hm
      by_cases h9 : m = 9
      · have hb : ((m : Int) == 9) = true := by simp [h9]
        go_wp2
        go_ret
        refine ⟨ret_bool ?_, rfl⟩
        exact (any_at _ (fun c => c.toNat == 9) i hll (by rw [e, ← HM.out]; simp [h9])).symm
      · have hb : ((m : Int) == 9) = false := by simp; omega
        go_wp2
        go_round
        case rel => exact ⟨i + 1, by omega, by go_num, any_take_succ _ _ i hll HA.out (by rw [e, ← HM.out]; simp [h9])⟩
        case measure => simp [intOf]; omega
    · go_wp2
      go_ret
      refine ⟨ret_bool ?_, rfl⟩
      exact (any_take_all _ _ i (by simpa using hlt) HA.out).symm

theorem plain_of {l : List UInt8} (h1 : markedB l = false) (h2 : tabbedB l = false) : ∀ c ∈ l, c ≠ 9 ∧ c ≠ 22 ∧ c ≠ 27 := by
  intro c hc
  have a1 := (List.any_eq_false.1 h1) c hc
  have a2 := (List.any_eq_false.1 h2) c hc
  refine ⟨?_, ?_, ?_⟩ <;> intro h <;> subst h
  · exact a2 rfl
  · exact a1 rfl
  · exact a1 rfl

end Go.Proofs.YtdljobmhnnegiaaDoor
