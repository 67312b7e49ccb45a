/-
  The walk of 'readsBack' (7).
-/
import Derived.Test.Qxb6619220aDoorUint
namespace Go.Proofs.Qxb6619220aDoor
open Go.RowKit Pl
open Go.Lib (byteCells)

theorem At.app {T : List UInt8} {p : Nat} {L M : List UInt8} (h : At T p L) (k : At T (p + L.length) M) : At T p (L ++ M) := by
  refine ⟨by have := k.1; simp; omega, fun j hj => ?_⟩
  by_cases hl : j < L.length
  · rw [h.2 j hl]
    simp only [List.getD_eq_getElem?_getD]
    rw [List.getElem?_append_left hl]
  · have h2 := k.2 (j - L.length) (by simp at hj; omega)
    rw [show p + L.length + (j - L.length) = p + j by omega] at h2
    rw [h2]
    simp only [List.getD_eq_getElem?_getD]
    rw [List.getElem?_append_right (by omega)]

theorem ent_at (S : Nat → ByteArray) (C : Nat → Nat) (n k q : Nat) (hk : k < n) (hq : q = 1 + (entsTo S C k).length) : ∃ (c : UInt8) (q2 q3 : Nat), (c = 44 ∨ c = 125) ∧ At (textT S C n) q (comma k) ∧
    At (textT S C n) (q + (comma k).length) (nameT (S k).data.toList) ∧ q2 = q + (comma k).length + (nameT (S k).data.toList).length ∧ At (textT S C n) q2 [58] ∧ At (textT S C n) (q2 + 1) (Lib.decDigits (C k) ++ [c]) ∧
    q3 = q2 + 1 + (Lib.decDigits (C k)).length ∧ q3 = 1 + (entsTo S C (k + 1)).length := by
  subst hq
  obtain ⟨h1, c, hc, h2⟩ := textT_at S C n k hk
  have e : 1 + (entsTo S C (k + 1)).length = 1 + (entsTo S C k).length + (comma k).length + (nameT (S k).data.toList).length + 1 + (Lib.decDigits (C k)).length := by
    simp [entsTo, entT]; omega
  rw [e] at h2
  have h3 : At (textT S C n) (1 + (entsTo S C k).length + (comma k).length) (nameT (S k).data.toList ++ (58 :: Lib.decDigits (C k))) := h1.right
  have h4 : At (textT S C n) (1 + (entsTo S C k).length + (comma k).length + (nameT (S k).data.toList).length) ([58] ++ Lib.decDigits (C k)) := h3.right
  exact ⟨c, _, _, hc, h1.left, h3.left, rfl, h4.left, At.app h4.right h2, rfl, e.symm⟩

theorem name_to (b off c p q2 : Nat) (T : List UInt8) (s : ByteArray) (w : World) (hB : Byts w b off T) (hat : At T p (nameT s.data.toList)) (hT : T.length ≤ 70368744177664) (h2 : q2 = p + (nameT s.data.toList).length) :
    Calls Tryd.prog 10 #[.slice (some ⟨b, off, none⟩) T.length c, .int .i64 p, .string s] w fun e w' => e = .returned (.tuple #[.int .i64 (q2 : Int), .bool true]) ∧ w' = w := h2 ▸ name_any b off c p T s w hB hat hT

theorem uint_to (b off c p u q3 : Nat) (cc : UInt8) (T : List UInt8) (w : World) (hB : Byts w b off T) (hat : At T p (Lib.decDigits u ++ [cc])) (hcc : cc = 44 ∨ cc = 125) (hT : T.length ≤ 70368744177664) (hu : u < 18446744073709551616) (h3 : q3 = p + (Lib.decDigits u).length) :
    Calls Tryd.prog 11 #[.slice (some ⟨b, off, none⟩) T.length c, .int .i64 p] w fun e w' => e = .returned (.tuple #[.int .u64 u, .int .i64 (q3 : Int), .bool true]) ∧ w' = w := h3 ▸ uint_read b off c p u cc T w hB hat hcc hT hu

set_option maxRecDepth 100000 in
set_option maxHeartbeats 2000000 in
theorem back_any (b off c n c1 c2 : Nat) (a a2 : Option Addr) (T : List UInt8) (S : Nat → ByteArray) (C : Nat → Nat) (w : World) (hB : Byts w b off T) (hTT : T = textT S C n) (hT : T.length ≤ 70368744177664) (hA : Strs w a n S) (hC : Nums w a2 n C) (hu : ∀ i, i < n → C i < 18446744073709551616) (hn : n ≤ 1048576) :
    Calls Tryd.prog 7 #[.slice (some ⟨b, off, none⟩) T.length c, .slice a n c1, .slice a2 n c2] w fun e w' => e = .returned (.bool true) ∧ w' = w := by
  have HB := hide_of hB
  have HA := hide_of hA
  have HC := hide_of hC
  have HU := hide_of hu
  have HTT := hide_of hTT
  have hend := textT_end S C n
  rw [← hTT] at hend
  have hlen := hend.1
  have hce := hB (1 + (entsTo S C n).length) (by omega)
  rw [hend.2] at hce
  have hc0 := hB 0 (by omega)
  have e0 : T.getD 0 0 = 123 := by rw [hTT]; rfl
  rw [e0, Nat.add_zero] at hc0
  have hc0' : w.cell? ⟨b, off, none⟩ = some (.int .u8 123) := hc0
  have hce' : w.cell? ⟨b, off + (1 + (entsTo S C n).length), none⟩ = some (.int .u8 125) := hce
  have HE := hide_of hce'
  have HLEN := hide_of hlen
  have hl0 : (0 : Int) < (T.length : Int) := by omega
  have hl1 : ((T.length : Int) == 0) = false := beq_eq_false_iff_ne.2 (by omega)
  clear hB hA hC hu hend hce hc0 e0 hTT hce' hlen
  go_enter Tryd.func7, Tryd.ntmps7
  go_wp2
  go_loop [7, 8] (fun ps is => ∃ k q : Nat, ps = .int .i64 q ∧ is = .int .i64 k ∧ k ≤ n ∧ q = 1 + (entsTo S C k).length) (fun _ is => n - (intOf is).toNat)
  case atStart => exact ⟨0, 1, rfl, rfl, Nat.zero_le _, rfl⟩
  case round =>
    clear hc0' hl0 hl1
    obtain ⟨k, q, rfl, rfl, hk, hq⟩ := hrel
    by_cases hlt : k < n
    · obtain ⟨cc, q2, q3, hcc, hA0, hA1, hq2, hA2, hA3, hq3, hq4⟩ := ent_at S C n k q hlt hq
      rw [← HTT.out] at hA0 hA1 hA2 hA3
      obtain ⟨b1, off1, rfl, hd1⟩ := HA.out.at k hlt
      obtain ⟨b2, off2, rfl, hd2⟩ := HC.out.at k hlt
      have hl1 : (k : Int) < (n : Int) := by omega
      have hu1 := HU.out k hlt
      have hb58 : w.cell? ⟨b, off + q2, none⟩ = some (.int .u8 58) := by
        have := HB.out q2 (by have := hA2.1; simp at this; omega)
        rw [(At.hd hA2).2] at this
        exact this
      have hq2T : (q2 : Int) < (T.length : Int) := by have := hA2.1; simp at this; omega
      have hq3T : q3 < T.length := by have := hA3.1; simp at this; omega
      have HCC := hide_of hcc
      have HA1 := hide_of hA1
      have HA3 := hide_of hA3
      have HQ2 := hide_of hq2
      have HQ3 := hide_of hq3
      have HQ4 := hide_of hq4
      have HA0 := hide_of hA0
      have hqT : q + (comma k).length < T.length := by have := hA1.1; rw [nameT_len] at this; omega
      clear hcc hA1 hA3 hq2 hq3 hq4 hA2 hA0 hq
      by_cases h0 : k = 0
      · subst h0
        have ec : (comma 0).length = 0 := rfl
        rw [ec] at hqT
        rw [Nat.add_zero] at hd1 hd2
        have hn0 : (0 : Int) < (n : Int) := by omega
        have H1 : Hid (At T q (nameT (S 0).data.toList)) := HA1.out
        have H2 : Hid (q2 = q + (nameT (S 0).data.toList).length) := HQ2.out
        clear HA1 HQ2 ec
        go_wp2_with (first
          | (go_at_call 10; refine (name_to b off c q q2 T (S 0) _ (by exact HB.out) H1.out hT H2.out).mono ?_; rintro e w2 ⟨rfl, hw⟩; have hw2 := hw.symm; clear hw; subst hw2)
          | (go_at_call 11; refine (uint_to b off c (q2 + 1) (C 0) q3 cc T _ (by exact HB.out) HA3.out HCC.out hT hu1 HQ3.out).mono ?_; rintro e w2 ⟨rfl, hw⟩; have hw2 := hw.symm; clear hw; subst hw2))
        go_round
        case rel => exact ⟨1, q3, by go_num, by go_num, by omega, HQ4.out⟩
        case measure => simp [intOf]; omega
      · have ec : comma k = [44] := by unfold comma; rw [if_neg h0]
        rw [ec] at HA0 HA1 HQ2 hqT
        have hb44 : w.cell? ⟨b, off + q, none⟩ = some (.int .u8 44) := by
          have := HB.out q (by simp at hqT; omega)
          rw [(At.hd HA0.out).2] at this
          exact this
        have H1 : Hid (At T (q + 1) (nameT (S k).data.toList)) := HA1.out
        have H2 : Hid (q2 = q + 1 + (nameT (S k).data.toList).length) := HQ2.out
        have hk0 : 0 < k := by omega
        have hqT2 : (q : Int) < (T.length : Int) := by simp at hqT; omega
        clear HA1 HQ2 ec HA0 h0
        go_wp2_with (first
          | (go_at_call 10; refine (name_to b off c (q + 1) q2 T (S k) _ (by exact HB.out) H1.out hT H2.out).mono ?_; rintro e w2 ⟨rfl, hw⟩; have hw2 := hw.symm; clear hw; subst hw2)
          | (go_at_call 11; refine (uint_to b off c (q2 + 1) (C k) q3 cc T _ (by exact HB.out) HA3.out HCC.out hT hu1 HQ3.out).mono ?_; rintro e w2 ⟨rfl, hw⟩; have hw2 := hw.symm; clear hw; subst hw2))
        go_round
        case rel => exact ⟨k + 1, q3, by go_num, by go_num, by omega, HQ4.out⟩
        case measure => simp [intOf]; omega
    · obtain rfl : k = n := by omega
      have hc := HE.out
      have hl := HLEN.out
      rw [← hq] at hc
      have hl2 : (q : Int) = (T.length : Int) - 1 := by omega
      have hl3 : ((q : Int) == (T.length : Int) - 1) = true := by simp; omega
      have hl4 : (q : Int) < (T.length : Int) := by omega
      clear hq hl hl2
      go_wp2
      go_ret
      exact ⟨rfl, rfl⟩
end Go.Proofs.Qxb6619220aDoor
