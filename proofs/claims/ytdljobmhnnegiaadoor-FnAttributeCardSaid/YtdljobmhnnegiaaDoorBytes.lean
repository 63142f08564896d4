/- The contracts of bytes.IndexByte, trimRightByte, TrimRight at a blank, and of trimUTF8: over any bytes in memory. -/
import Derived.Test.YtdljobmhnnegiaaDoorBase
import Derived.Laws.Externs
namespace Go.Proofs.YtdljobmhnnegiaaDoor
open Go.RowKit

theorem bytesOf_nums (l : List UInt8) : Lib.bytesOf (l.map fun c => ((c.toNat : Nat) : Int)) = l := by
  simp [Lib.bytesOf, List.map_map, Function.comp_def]

set_option maxRecDepth 100000 in
set_option maxHeartbeats 400000 in
theorem indexByte_any {w : World} {b off : Nat} {l : List UInt8} (h : Rd w b off l) (n c : Nat) (hn : n = l.length) (x : UInt8) :
    Calls Tryd.prog 59 #[.slice (some ⟨b, off, none⟩) n c, .int .u8 x.toNat] w fun e w' => e = .returned (.int .i64 (Lib.indexByte l x)) ∧ w = w' := by
  have H := Lib.hid h
  have HN := Lib.hid hn
  clear h hn
  go_enter Tryd.func59, Tryd.ntmps59
  go_wp2
  rw [run_callFunc_extern Tryd.func75 (by kernel_rfl) (by kernel_rfl) (by kernel_rfl) (e := Extern.BytealgIndexByte.indexByte) (by kernel_rfl), Lib.run_indexByteSlice w b off n c (l.map fun c => ((c.toNat : Nat) : Int)) (by simp [HN.out]) (fun i hi => by rw [H.out i (by rw [← HN.out]; exact hi), getD_map l i (by rw [← HN.out]; exact hi)]) x.toNat]
  simp only [Result.andThen]
  rw [Oper.upon_value]
  go_wp2
  go_ret
  refine ⟨ret_int ?_, rfl⟩
  rw [bytesOf_nums]

/-- l without the x's at its end. -/
def trimR1 (x : UInt8) (l : List UInt8) : Nat → List UInt8
  | 0 => l
  | k + 1 => match l.getLast? with
    | some c => if c = x then trimR1 x l.dropLast k else l
    | none => l
def trimRB (l : List UInt8) (x : UInt8) : List UInt8 := trimR1 x l l.length
theorem trimR1_len (x : UInt8) : ∀ (k : Nat) (l : List UInt8), ∃ m, m ≤ l.length ∧ trimR1 x l k = l.take m
  | 0, l => ⟨l.length, Nat.le_refl _, by simp [trimR1]⟩
  | k + 1, l => by
    unfold trimR1
    split
    · split
      · obtain ⟨m, hm, he⟩ := trimR1_len x k l.dropLast
        rw [List.length_dropLast] at hm
        refine ⟨m, by omega, ?_⟩
        rw [he, List.dropLast_eq_take, List.take_take, Nat.min_eq_left (by omega)]
      · exact ⟨l.length, Nat.le_refl _, by simp⟩
    · exact ⟨l.length, Nat.le_refl _, by simp⟩

def TrimPost (b off : Nat) (c : Nat) (l : List UInt8) (w : World) (e : Ending) (w' : World) : Prop := e = .returned (.slice (some ⟨b, off, none⟩) l.length c) ∧ w = w'

set_option maxRecDepth 100000 in
set_option maxHeartbeats 400000 in
theorem trimRightByte_any {w : World} {b off : Nat} {l : List UInt8} (h : Rd w b off l) (n c : Nat) (hn : n = l.length) (hc : n ≤ c) (hbig : n ≤ 140737488351232) (x : UInt8) :
    Calls Tryd.prog 76 #[.slice (some ⟨b, off, none⟩) n c, .int .u8 x.toNat] w (TrimPost b off c (trimRB l x) w) := by
  have H := Lib.hid h
  have HN := Lib.hid hn
  obtain ⟨xn, hx⟩ : ∃ xn, xn = x.toNat := ⟨_, rfl⟩
  rw [← hx]
  have HX := Lib.hid hx
  clear h hn hx
  go_enter Tryd.func76, Tryd.ntmps76
  go_wp2
  go_loop [0] (fun v0 => ∃ k : Nat, k ≤ n ∧ v0 = .slice (some ⟨b, off, none⟩) k c ∧ Hid (trimRB l x = trimR1 x (l.take k) k)) (fun v0 => match v0 with | .slice _ k _ => k | _ => 0)
  case atStart => exact ⟨n, Nat.le_refl _, rfl, by have := HN.out; subst this; show _ = _; unfold trimRB; simp⟩
  case round =>
    obtain ⟨k, hk, rfl, HT⟩ := hrel
    cases k with
    | zero =>
      go_wp2
      go_ret
      exact ⟨by rw [HT.out]; rfl, rfl⟩
    | succ k =>
      have hcell := H.out k (by have := HN.out; omega)
      obtain ⟨y, hy⟩ : ∃ y, y = l.getD k 0 := ⟨_, rfl⟩
      rw [← hy] at hcell
      obtain ⟨yn, hyn⟩ : ∃ yn, yn = y.toNat := ⟨_, rfl⟩
      rw [← hyn] at hcell
      have HL : Hid ((l.take (k + 1)).getLast? = some y ∧ (l.take (k + 1)).dropLast = l.take k) := by
        have hkl : k < l.length := by have := HN.out; omega
        constructor
        · rw [List.getLast?_eq_getElem?, List.length_take, Nat.min_eq_left (by omega), List.getElem?_take, if_pos (by omega), hy, List.getD_eq_getElem?_getD]
          simp [List.getElem?_eq_getElem hkl]
        · rw [List.dropLast_eq_take, List.length_take, Nat.min_eq_left (by omega), List.take_take, Nat.min_eq_left (by omega)]; rfl
      have HY := Lib.hid hyn
      clear hy hyn
      have e1 : (((k + 1 : Nat) : Int) - 1) = (k : Int) := by omega
      by_cases he : yn = xn
      · have b1 : ((yn : Int) == (xn : Int)) = true := by simp; omega
        have HE := Lib.hid he; clear he
        go_wp2
        go_round
        case rel =>
          refine ⟨k, by omega, rfl, HT.out.trans ?_⟩
          unfold trimR1
          rw [HL.out.1]
          simp only []
          rw [if_pos (UInt8.toNat_inj.1 (by rw [← HY.out, ← HX.out]; exact HE.out)), HL.out.2]
          cases k <;> rfl
        case measure => simp
      · have b1 : ((yn : Int) == (xn : Int)) = false := by simp; omega
        have HE := Lib.hid he; clear he
        go_wp2
        go_ret
        refine ⟨?_, rfl⟩
        have : trimRB l x = l.take (k + 1) := by
          rw [HT.out]
          unfold trimR1
          rw [HL.out.1]
          simp only []
          rw [if_neg (fun hh => HE.out (by rw [HY.out, HX.out, hh]))]
        rw [this, List.length_take, Nat.min_eq_left (by have := HN.out; omega)]
        rfl

set_option maxRecDepth 100000 in
set_option maxHeartbeats 400000 in
theorem trimRight_any {w : World} {b off : Nat} {l : List UInt8} (h : Rd w b off l) (n c : Nat) (hn : n = l.length) (hc : n ≤ c) (hbig : n ≤ 140737488351232) :
    Calls Tryd.prog 60 #[.slice (some ⟨b, off, none⟩) n c, .string ⟨#[32]⟩] w (TrimPost b off c (trimRB l 32) w) := by
  have H := Lib.hid h
  have HN := Lib.hid hn
  clear h hn
  cases n with
  | zero =>
    go_enter Tryd.func60, Tryd.ntmps60
    go_wp2
    go_ret
    refine ⟨?_, rfl⟩
    have : l = [] := List.length_eq_zero_iff.1 HN.out.symm
    subst this
    rfl
  | succ n =>
    go_enter Tryd.func60, Tryd.ntmps60
    go_wp2_with (go_at_call 76; refine (trimRightByte_any H.out _ c HN.out hc hbig 32).mono ?_; rintro e w' ⟨rfl, rfl⟩)
    go_ret
    exact ⟨rfl, rfl⟩

/-- What trimUTF8 does from the i-th byte from the end on. -/
def trimFrom (l : List UInt8) : Nat → Nat → Nat
  | 0, _ => l.length
  | k + 1, i => if i < 4 ∧ i ≤ l.length then
      (if (l.getD (l.length - i) 0).toNat / 64 = 2 then trimFrom l k (i + 1)
       else if ((l.getD (l.length - i) 0).toNat / 32 = 6 ∧ i < 2) ∨ ((l.getD (l.length - i) 0).toNat / 16 = 14 ∧ i < 3) ∨ (l.getD (l.length - i) 0).toNat / 8 = 30 then l.length - i else l.length)
    else l.length
def trimU (l : List UInt8) : Nat := trimFrom l 4 1
/-- The rest's answer, behind a name. -/
def trimR (l : List UInt8) (i : Nat) : Nat := trimFrom l (5 - i) i

theorem trimFrom_le (l : List UInt8) : ∀ k i, trimFrom l k i ≤ l.length
  | 0, _ => Nat.le_refl _
  | k + 1, i => by
    simp only [trimFrom]
    split
    · split
      · exact trimFrom_le l k (i + 1)
      · split <;> omega
    · exact Nat.le_refl _
theorem trimFrom_gt (l : List UInt8) : ∀ k i, 1 ≤ i → 4 ≤ l.length → l.length < trimFrom l k i + 4
  | 0, _, _, _ => by simp only [trimFrom]; omega
  | k + 1, i, h, h4 => by
    simp only [trimFrom]
    split
    · split
      · exact trimFrom_gt l k (i + 1) (by omega) h4
      · split <;> omega
    · omega

theorem trimR_out (l : List UInt8) (i : Nat) (h : ¬ (i < 4 ∧ i ≤ l.length)) : trimR l i = l.length := by
  unfold trimR
  cases e : 5 - i with
  | zero => rfl
  | succ k => simp only [trimFrom]; rw [if_neg h]
theorem trimR_next (l : List UInt8) (i : Nat) (h : i < 4 ∧ i ≤ l.length) (c : (l.getD (l.length - i) 0).toNat / 64 = 2) : trimR l i = trimR l (i + 1) := by
  unfold trimR
  obtain ⟨k, e⟩ : ∃ k, 5 - i = k + 1 := ⟨4 - i, by omega⟩
  rw [e]; simp only [trimFrom]; rw [if_pos h, if_pos c, show 5 - (i + 1) = k by omega]
theorem trimR_cut (l : List UInt8) (i : Nat) (h : i < 4 ∧ i ≤ l.length) (c : ¬ (l.getD (l.length - i) 0).toNat / 64 = 2)
    (d : ((l.getD (l.length - i) 0).toNat / 32 = 6 ∧ i < 2) ∨ ((l.getD (l.length - i) 0).toNat / 16 = 14 ∧ i < 3) ∨ (l.getD (l.length - i) 0).toNat / 8 = 30) : trimR l i = l.length - i := by
  unfold trimR
  obtain ⟨k, e⟩ : ∃ k, 5 - i = k + 1 := ⟨4 - i, by omega⟩
  rw [e]; simp only [trimFrom]; rw [if_pos h, if_neg c, if_pos d]
theorem trimR_all (l : List UInt8) (i : Nat) (h : i < 4 ∧ i ≤ l.length) (c : ¬ (l.getD (l.length - i) 0).toNat / 64 = 2)
    (d : ¬ (((l.getD (l.length - i) 0).toNat / 32 = 6 ∧ i < 2) ∨ ((l.getD (l.length - i) 0).toNat / 16 = 14 ∧ i < 3) ∨ (l.getD (l.length - i) 0).toNat / 8 = 30)) : trimR l i = l.length := by
  unfold trimR
  obtain ⟨k, e⟩ : ∃ k, 5 - i = k + 1 := ⟨4 - i, by omega⟩
  rw [e]; simp only [trimFrom]; rw [if_pos h, if_neg c, if_neg d]

theorem masks : ∀ c : Fin 256, (bits BinOp.and IntKind.u8 (c.val : Int) 192 != 128) = !decide (c.val / 64 = 2) ∧ (bits BinOp.and IntKind.u8 (c.val : Int) 224 == 192) = decide (c.val / 32 = 6) ∧
    (bits BinOp.and IntKind.u8 (c.val : Int) 240 == 224) = decide (c.val / 16 = 14) ∧ (bits BinOp.and IntKind.u8 (c.val : Int) 248 == 240) = decide (c.val / 8 = 30) := by decide +kernel
theorem masks_of (c : UInt8) : (bits BinOp.and IntKind.u8 (c.toNat : Int) 192 != 128) = !decide (c.toNat / 64 = 2) ∧ (bits BinOp.and IntKind.u8 (c.toNat : Int) 224 == 192) = decide (c.toNat / 32 = 6) ∧
    (bits BinOp.and IntKind.u8 (c.toNat : Int) 240 == 224) = decide (c.toNat / 16 = 14) ∧ (bits BinOp.and IntKind.u8 (c.toNat : Int) 248 == 240) = decide (c.toNat / 8 = 30) := masks ⟨c.toNat, c.toNat_lt⟩

set_option maxRecDepth 100000 in
set_option maxHeartbeats 400000 in
theorem trim_any (b off cap : Nat) (cs : List UInt8) (w : World) (n : Nat) (hn : n = cs.length) (hs : n ≤ 140737488351232)
   (hc : Rd w b off cs) :
    Calls Tryd.prog 61 #[.slice (some ⟨b, off, none⟩) n cap] w fun e w' => e = .returned (.int .i64 (trimU cs)) ∧ w = w' := by
  have HC := Lib.hid hc
  have HN := Lib.hid hn
  clear hc hn
  go_enter Tryd.func61, Tryd.ntmps61
  go_wp2
  go_loop [3] (fun v3 => ∃ i : Nat, 1 ≤ i ∧ i ≤ 4 ∧ v3 = .int .i64 i ∧ Hid (trimU cs = trimR cs i)) (fun i => 4 - (intOf i).toNat)
  case atStart => exact ⟨1, by omega, by omega, rfl, rfl⟩
  case round =>
    obtain ⟨i, h1, h4, rfl, HT⟩ := hrel
    by_cases hi : i < 4 ∧ i ≤ n
    · have HI : Hid (i < 4 ∧ i ≤ cs.length) := by have := HN.out; subst this; exact hi
      obtain ⟨hi4, hin⟩ := hi
      have hcell := HC.out (n - i) (by have := HN.out; omega)
      obtain ⟨c, hcc⟩ : ∃ c, c = cs.getD (n - i) 0 := ⟨_, rfl⟩
      rw [← hcc] at hcell
      have HCC : Hid (c = cs.getD (cs.length - i) 0) := by have := HN.out; subst this; exact hcc
      clear hcc
      obtain ⟨m1, m2, m3, m4⟩ := masks_of c
      have e : ((n : Int) - (i : Int)) = ((n - i : Nat) : Int) := by omega
      by_cases c1 : c.toNat / 64 = 2
      · have b1 : decide (c.toNat / 64 = 2) = true := by simpa using c1
        have C1 := Lib.hid c1; clear c1
        go_wp2
        go_round
        case rel => exact ⟨i + 1, by omega, by omega, by go_num, HT.out.trans (trimR_next cs i HI.out (by rw [← HCC.out]; exact C1.out))⟩
        case measure => simp [intOf]; omega
      · have b1 : decide (c.toNat / 64 = 2) = false := by simpa using c1
        have C1 := Lib.hid c1; clear c1
        by_cases c2 : c.toNat / 32 = 6
        · have b2 : decide (c.toNat / 32 = 6) = true := by simpa using c2
          have C2 := Lib.hid c2; clear c2
          by_cases d : i < 2
          all_goals
            go_wp2
            go_ret
            refine ⟨ret_int ?_, rfl⟩
          · rw [HT.out, trimR_cut cs i HI.out (by rw [← HCC.out]; exact C1.out) (by rw [← HCC.out]; exact .inl ⟨C2.out, d⟩), HN.out]
          · rw [HT.out, trimR_all cs i HI.out (by rw [← HCC.out]; exact C1.out) (by rw [← HCC.out]; have := C2.out; omega), HN.out]
        · have b2 : decide (c.toNat / 32 = 6) = false := by simpa using c2
          have C2 := Lib.hid c2; clear c2
          by_cases c3 : c.toNat / 16 = 14
          · have b3 : decide (c.toNat / 16 = 14) = true := by simpa using c3
            have C3 := Lib.hid c3; clear c3
            by_cases d : i < 3
            all_goals
              go_wp2
              go_ret
              refine ⟨ret_int ?_, rfl⟩
            · rw [HT.out, trimR_cut cs i HI.out (by rw [← HCC.out]; exact C1.out) (by rw [← HCC.out]; exact .inr (.inl ⟨C3.out, d⟩)), HN.out]
            · rw [HT.out, trimR_all cs i HI.out (by rw [← HCC.out]; exact C1.out) (by rw [← HCC.out]; have := C3.out; omega), HN.out]
          · have b3 : decide (c.toNat / 16 = 14) = false := by simpa using c3
            have C3 := Lib.hid c3; clear c3
            by_cases c4 : c.toNat / 8 = 30
            · have b4 : decide (c.toNat / 8 = 30) = true := by simpa using c4
              have C4 := Lib.hid c4; clear c4
              go_wp2
              go_ret
              refine ⟨ret_int ?_, rfl⟩
              rw [HT.out, trimR_cut cs i HI.out (by rw [← HCC.out]; exact C1.out) (by rw [← HCC.out]; exact .inr (.inr C4.out)), HN.out]
            · have b4 : decide (c.toNat / 8 = 30) = false := by simpa using c4
              have C4 := Lib.hid c4; clear c4
              go_wp2
              go_ret
              refine ⟨ret_int ?_, rfl⟩
              rw [HT.out, trimR_all cs i HI.out (by rw [← HCC.out]; exact C1.out) (by rw [← HCC.out]; have := C2.out; have := C3.out; have := C4.out; omega), HN.out]
    · have HI : Hid (¬ (i < 4 ∧ i ≤ cs.length)) := by have := HN.out; subst this; exact hi
      by_cases hi4 : i < 4
      · have hin : n < i := by omega
        clear hi
        go_wp2
        go_ret
        exact ⟨ret_int (by rw [HT.out, trimR_out cs i HI.out, HN.out]), rfl⟩
      · clear hi
        go_wp2
        go_ret
        exact ⟨ret_int (by rw [HT.out, trimR_out cs i HI.out, HN.out]), rfl⟩

end Go.Proofs.YtdljobmhnnegiaaDoor
