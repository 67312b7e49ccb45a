/-
  The walks of 'lowerHex' (14), 'readName' (10), 'readUint' (11), 'sameBytes' (8).
-/
import Derived.Test.Qxb6619220aDoorMake
import Derived.BigQuiet
import Derived.Deep.QuietTactic
namespace Go.Proofs.Qxb6619220aDoor
open Go.RowKit Pl
open Go.Lib (byteCells)

/-- The bytes T lie from ⟨b, off⟩ on. -/
def Byts (w : World) (b off : Nat) (T : List UInt8) : Prop := ∀ i, i < T.length → w.cell? ⟨b, off + i, none⟩ = some (.int .u8 ((T.getD i 0).toNat : Int))

theorem Byts.cell {w : World} {b off q : Nat} {T L : List UInt8} {vals : List Value} {x : Value} (h : Byts w b off T) (hat : At T q L) (j : Nat) (e : byteCells L = vals) (hj : vals[j]? = some x) : w.cell? ⟨b, off + (q + j), none⟩ = some x := by
  subst e
  have hl : j < L.length := by
    have := (List.getElem?_eq_some_iff.1 hj).1
    simpa [byteCells] using this
  have h1 := h (q + j) (by have := hat.1; omega)
  rw [h1, hat.2 j hl]
  have e2 : (byteCells L)[j]? = some (.int .u8 ((L.getD j 0).toNat : Int)) := by simp [byteCells, List.getD, hl]
  rw [← hj, e2]

theorem ret2 {a b : Int} (h : a = b) : Ending.returned (.tuple #[.int .i64 a, .bool true]) = .returned (.tuple #[.int .i64 b, .bool true]) := by rw [h]

theorem or_all : ∀ n : Fin 32, (n.val / 16 * 16) ||| (n.val % 16) = n.val := by decide
theorem or_hex {n : Nat} (h : n < 32) : bits .or .u8 ((n : Int) / 16 * 16) ((n : Int) % 16) = (n : Int) := by
  have e1 : ((n : Int) / 16 * 16) = ((n / 16 * 16 : Nat) : Int) := by simp
  have e2 : ((n : Int) % 16) = ((n % 16 : Nat) : Int) := by simp
  rw [e1, e2, u8_or_nat _ _ (by omega) (by omega), or_all ⟨n, h⟩]

set_option maxHeartbeats 400000 in
theorem lower_any (x : Int) (h0 : 0 ≤ x) (h1 : x < 16) (w : World) : Calls Tryd.prog 14 #[.int .u8 (hexI x)] w fun e w' => e = .returned (.tuple #[.int .u8 x, .bool true]) ∧ w' = w := by
  by_cases h : x < 10
  · have e : hexI x = 48 + x := by unfold hexI; rw [if_pos h]
    rw [e]
    go_enter Tryd.func14, Tryd.ntmps14
    go_wp2
    go_ret2
    exact ⟨by congr; simp; omega, rfl⟩
  · have e : hexI x = 87 + x := by unfold hexI; rw [if_neg h]
    have hd : decide ((87 : Int) + x ≤ 57) = false := by simp; omega
    rw [e]
    go_enter Tryd.func14, Tryd.ntmps14
    go_wp2
    go_ret2
    exact ⟨by congr; simp; omega, rfl⟩

set_option maxRecDepth 100000 in
set_option maxHeartbeats 4000000 in
theorem name_any (b off c p : Nat) (T : List UInt8) (s : ByteArray) (w : World) (hB : Byts w b off T) (hat : At T p (nameT s.data.toList)) (hT : T.length ≤ 70368744177664) :
    Calls Tryd.prog 10 #[.slice (some ⟨b, off, none⟩) T.length c, .int .i64 p, .string s] w fun e w' => e = .returned (.tuple #[.int .i64 ((p + (nameT s.data.toList).length : Nat) : Int), .bool true]) ∧ w' = w := by
  have HB : Hid (Byts w b off T) := hB
  have HA : Hid (At T p (nameT s.data.toList)) := hat
  have hp := hat.1
  have hnl := nameT_len s.data.toList
  have HNL := hide_of hnl
  have hsl : s.data.toList.length = s.size := by simp
  have hc0 := hB.cell (L := [34]) (At.left (L := [34]) hat) 0 rfl rfl
  rw [Nat.add_zero] at hc0
  have hp1 : (p : Int) < (T.length : Int) := by omega
  have hsz : s.size ≤ 70368744177664 := by
    have h1 : ∀ l : List UInt8, l.length ≤ (escS l).length := fun l => by
      induction l with
      | nil => simp
      | cons c l ih => have := escB_len c; simp [escS]; omega
    have := h1 s.data.toList
    omega
  clear hB hat hnl
  go_enter Tryd.func10, Tryd.ntmps10
  go_wp2
  go_loop [1, 8] (fun ps js => ∃ k q : Nat, ps = .int .i64 q ∧ js = .int .i64 k ∧ k ≤ s.size ∧ q = p + 1 + (escS (s.data.toList.take k)).length) (fun _ js => s.size - (intOf js).toNat)
  case atStart => exact ⟨0, p + 1, by go_num, rfl, Nat.zero_le _, by simp [escS]⟩
  case round =>
    clear hc0
    obtain ⟨k, q, rfl, rfl, hk, hq⟩ := hrel
    have HQ : Hid (q = p + 1 + (escS (s.data.toList.take k)).length) := hq
    clear hq
    by_cases hlt : k < s.size
    · have hat : At T q (escB s[k]) := by rw [HQ.out]; exact HA.out.esc k (by simpa using hlt)
      have hqT := hat.1
      have hbl := escB_len s[k]
      have HAT : Hid (At T q (escB s[k])) := hat
      have HQ2 : Hid (q + (escB s[k]).length = p + 1 + (escS (s.data.toList.take (k + 1))).length) := by
        show _ = _
        have e1 : s.data.toList.take (k + 1) = s.data.toList.take k ++ [s[k]] := by rw [List.take_succ_eq_append_getElem (by simpa using hlt)]; rfl
        rw [e1, escS_snoc, HQ.out]; simp; omega
      have hcb : s[k].toNat < 256 := s[k].toNat_lt
      have hl1 : (q : Int) < (T.length : Int) := by omega
      have hls : (k : Int) < (s.size : Int) := by omega
      clear hat
      rcases (show s[k].toNat = 34 ∨ s[k].toNat = 92 ∨ s[k].toNat = 8 ∨ s[k].toNat = 12 ∨ s[k].toNat = 10 ∨ s[k].toNat = 13 ∨ s[k].toNat = 9 ∨
        (s[k].toNat < 32 ∧ s[k].toNat ≠ 8 ∧ s[k].toNat ≠ 12 ∧ s[k].toNat ≠ 10 ∧ s[k].toNat ≠ 13 ∧ s[k].toNat ≠ 9) ∨ (32 ≤ s[k].toNat ∧ s[k].toNat ≠ 34 ∧ s[k].toNat ≠ 92) by omega) with hc | hc | hc | hc | hc | hc | hc | hc | hc
      all_goals have HCC := hide_of hc
      all_goals clear hc
      · have e1 := esc_34 HCC.out
        have el : (escB s[k]).length = 2 := by have := congrArg List.length e1; simpa [byteCells] using this
        have hc0 := HB.out.cell HAT.out 0 e1 rfl
        have hc1 := HB.out.cell HAT.out 1 e1 rfl
        rw [HCC.out] at hc1
        rw [Nat.add_zero] at hc0
        have hwd : ((s[k].toNat : Int) != 34) = false := by have := HCC.out; simp; omega
        rw [el] at hqT hbl
        have HQ3 : Hid (q + 2 = p + 1 + (escS (s.data.toList.take (k + 1))).length) := by have := HQ2.out; rw [el] at this; exact this
        have hl2 : (q : Int) + 1 < (T.length : Int) := by omega
        clear e1 el HQ2 HAT HQ
        go_wp2
        go_round
        case rel => exact ⟨k + 1, q + 2, by go_num, by go_num, by omega, HQ3.out⟩
        case measure => simp [intOf]; omega
      · have e1 := esc_92 HCC.out
        have el : (escB s[k]).length = 2 := by have := congrArg List.length e1; simpa [byteCells] using this
        have hc0 := HB.out.cell HAT.out 0 e1 rfl
        have hc1 := HB.out.cell HAT.out 1 e1 rfl
        rw [HCC.out] at hc1
        rw [Nat.add_zero] at hc0
        have hwd : ((s[k].toNat : Int) != 92) = false := by have := HCC.out; simp; omega
        rw [el] at hqT hbl
        have HQ3 : Hid (q + 2 = p + 1 + (escS (s.data.toList.take (k + 1))).length) := by have := HQ2.out; rw [el] at this; exact this
        have hl2 : (q : Int) + 1 < (T.length : Int) := by omega
        clear e1 el HQ2 HAT HQ
        go_wp2
        go_round
        case rel => exact ⟨k + 1, q + 2, by go_num, by go_num, by omega, HQ3.out⟩
        case measure => simp [intOf]; omega
      · have e1 := esc_8 HCC.out
        have el : (escB s[k]).length = 2 := by have := congrArg List.length e1; simpa [byteCells] using this
        have hc0 := HB.out.cell HAT.out 0 e1 rfl
        have hc1 := HB.out.cell HAT.out 1 e1 rfl
        rw [Nat.add_zero] at hc0
        have hwd : ((s[k].toNat : Int) != 8) = false := by have := HCC.out; simp; omega
        rw [el] at hqT hbl
        have HQ3 : Hid (q + 2 = p + 1 + (escS (s.data.toList.take (k + 1))).length) := by have := HQ2.out; rw [el] at this; exact this
        have hl2 : (q : Int) + 1 < (T.length : Int) := by omega
        clear e1 el HQ2 HAT HQ
        go_wp2
        go_round
        case rel => exact ⟨k + 1, q + 2, by go_num, by go_num, by omega, HQ3.out⟩
        case measure => simp [intOf]; omega
      · have e1 := esc_12 HCC.out
        have el : (escB s[k]).length = 2 := by have := congrArg List.length e1; simpa [byteCells] using this
        have hc0 := HB.out.cell HAT.out 0 e1 rfl
        have hc1 := HB.out.cell HAT.out 1 e1 rfl
        rw [Nat.add_zero] at hc0
        have hwd : ((s[k].toNat : Int) != 12) = false := by have := HCC.out; simp; omega
        rw [el] at hqT hbl
        have HQ3 : Hid (q + 2 = p + 1 + (escS (s.data.toList.take (k + 1))).length) := by have := HQ2.out; rw [el] at this; exact this
        have hl2 : (q : Int) + 1 < (T.length : Int) := by omega
        clear e1 el HQ2 HAT HQ
        go_wp2
        go_round
        case rel => exact ⟨k + 1, q + 2, by go_num, by go_num, by omega, HQ3.out⟩
        case measure => simp [intOf]; omega
      · have e1 := esc_10 HCC.out
        have el : (escB s[k]).length = 2 := by have := congrArg List.length e1; simpa [byteCells] using this
        have hc0 := HB.out.cell HAT.out 0 e1 rfl
        have hc1 := HB.out.cell HAT.out 1 e1 rfl
        rw [Nat.add_zero] at hc0
        have hwd : ((s[k].toNat : Int) != 10) = false := by have := HCC.out; simp; omega
        rw [el] at hqT hbl
        have HQ3 : Hid (q + 2 = p + 1 + (escS (s.data.toList.take (k + 1))).length) := by have := HQ2.out; rw [el] at this; exact this
        have hl2 : (q : Int) + 1 < (T.length : Int) := by omega
        clear e1 el HQ2 HAT HQ
        go_wp2
        go_round
        case rel => exact ⟨k + 1, q + 2, by go_num, by go_num, by omega, HQ3.out⟩
        case measure => simp [intOf]; omega
      · have e1 := esc_13 HCC.out
        have el : (escB s[k]).length = 2 := by have := congrArg List.length e1; simpa [byteCells] using this
        have hc0 := HB.out.cell HAT.out 0 e1 rfl
        have hc1 := HB.out.cell HAT.out 1 e1 rfl
        rw [Nat.add_zero] at hc0
        have hwd : ((s[k].toNat : Int) != 13) = false := by have := HCC.out; simp; omega
        rw [el] at hqT hbl
        have HQ3 : Hid (q + 2 = p + 1 + (escS (s.data.toList.take (k + 1))).length) := by have := HQ2.out; rw [el] at this; exact this
        have hl2 : (q : Int) + 1 < (T.length : Int) := by omega
        clear e1 el HQ2 HAT HQ
        go_wp2
        go_round
        case rel => exact ⟨k + 1, q + 2, by go_num, by go_num, by omega, HQ3.out⟩
        case measure => simp [intOf]; omega
      · have e1 := esc_9 HCC.out
        have el : (escB s[k]).length = 2 := by have := congrArg List.length e1; simpa [byteCells] using this
        have hc0 := HB.out.cell HAT.out 0 e1 rfl
        have hc1 := HB.out.cell HAT.out 1 e1 rfl
        rw [Nat.add_zero] at hc0
        have hwd : ((s[k].toNat : Int) != 9) = false := by have := HCC.out; simp; omega
        rw [el] at hqT hbl
        have HQ3 : Hid (q + 2 = p + 1 + (escS (s.data.toList.take (k + 1))).length) := by have := HQ2.out; rw [el] at this; exact this
        have hl2 : (q : Int) + 1 < (T.length : Int) := by omega
        clear e1 el HQ2 HAT HQ
        go_wp2
        go_round
        case rel => exact ⟨k + 1, q + 2, by go_num, by go_num, by omega, HQ3.out⟩
        case measure => simp [intOf]; omega
      · have e1 := esc_ctl HCC.out.1 HCC.out.2.1 HCC.out.2.2.1 HCC.out.2.2.2.1 HCC.out.2.2.2.2.1 HCC.out.2.2.2.2.2
        have el : (escB s[k]).length = 6 := by have := congrArg List.length e1; simpa [byteCells] using this
        have hc0 := HB.out.cell HAT.out 0 e1 rfl
        have hc1 := HB.out.cell HAT.out 1 e1 rfl
        have hc2 := HB.out.cell HAT.out 2 e1 rfl
        have hc3 := HB.out.cell HAT.out 3 e1 rfl
        have hc4 := HB.out.cell HAT.out 4 e1 rfl
        have hc5 := HB.out.cell HAT.out 5 e1 rfl
        rw [Nat.add_zero] at hc0
        rw [el] at hqT hbl
        have HQ3 : Hid (q + 6 = p + 1 + (escS (s.data.toList.take (k + 1))).length) := by have := HQ2.out; rw [el] at this; exact this
        have hl2 : (q : Int) + 5 < (T.length : Int) := by omega
        have hor : bits .or .u8 ((s[k].toNat : Int) / 16 * 16) ((s[k].toNat : Int) % 16) = (s[k].toNat : Int) := or_hex HCC.out.1
        have hd0 : ¬ (32 : Int) ≤ (s[k].toNat : Int) := by have := HCC.out; omega
        have hd1 : ((s[k].toNat : Int) == 8) = false := by have := HCC.out; simp; omega
        have hd2 : ((s[k].toNat : Int) == 9) = false := by have := HCC.out; simp; omega
        have hd3 : ((s[k].toNat : Int) == 10) = false := by have := HCC.out; simp; omega
        have hd4 : ((s[k].toNat : Int) == 12) = false := by have := HCC.out; simp; omega
        have hd5 : ((s[k].toNat : Int) == 13) = false := by have := HCC.out; simp; omega
        have hx1 : (s[k].toNat : Int) / 16 < 16 := by have := HCC.out; omega
        clear e1 el HQ2 HAT HQ
        go_wp2_with (go_at_call 14; refine (lower_any _ (by omega) (by omega) _).mono ?_; rintro e w2 ⟨rfl, hw⟩; have hw2 := hw.symm; clear hw; subst hw2)
        go_round
        case rel => exact ⟨k + 1, q + 6, by go_num, by go_num, by omega, HQ3.out⟩
        case measure => simp [intOf]; omega
      · have e1 := esc_raw HCC.out.1 HCC.out.2.1 HCC.out.2.2
        have hc0 := HB.out.cell HAT.out 0 (by rw [e1]) rfl
        rw [Nat.add_zero] at hc0
        have hw1 : ((s[k].toNat : Int) == 34) = false := by have := HCC.out; simp; omega
        have hw2 : ((s[k].toNat : Int) == 92) = false := by have := HCC.out; simp; omega
        have hw3 : ¬ (s[k].toNat : Int) < 32 := by have := HCC.out; omega
        rw [e1] at hqT hbl
        have HQ3 : Hid (q + 1 = p + 1 + (escS (s.data.toList.take (k + 1))).length) := by have := HQ2.out; rw [e1] at this; exact this
        clear e1 HQ2 HAT HQ
        go_wp2
        go_round
        case rel => exact ⟨k + 1, q + 1, by go_num, by go_num, by omega, HQ3.out⟩
        case measure => simp [intOf]; omega
    · obtain rfl : k = s.size := by omega
      have htk : s.data.toList.take s.size = s.data.toList := List.take_of_length_le (by simp)
      have hat := HA.out.quote
      have hq : q = p + 1 + (escS s.data.toList).length := by have := HQ.out; rw [htk] at this; exact this
      rw [← hq] at hat
      have hc0 := HB.out.cell hat 0 rfl rfl
      rw [Nat.add_zero] at hc0
      have hl1 : (q : Int) < (T.length : Int) := by have := hat.1; simp at this; omega
      have HF : Hid (q + 1 = p + (nameT s.data.toList).length) := by show _ = _; rw [HNL.out, hq]; omega
      clear hat htk hq
      go_wp2
      go_ret2
      first | exact ⟨ret2 (by have := HF.out; omega), rfl⟩ | (have := HF.out; go_goals)
end Go.Proofs.Qxb6619220aDoor
