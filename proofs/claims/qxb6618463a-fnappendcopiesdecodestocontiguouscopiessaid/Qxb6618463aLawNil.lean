/-
  The walk of the law (function 3), a nil slice, n above 0.
-/
import Derived.Test.Qxb6618463aLawParts
namespace Go.Proofs.Qxb6618463a
open Go.RowKit Pl

set_option maxRecDepth 100000 in
set_option maxHeartbeats 2000000 in
theorem law_nil_pos (offset n : Int) (w : World) (hp : 0 < n) (hn : n ≤ 68719476736) (ho0 : -9223372036854775808 ≤ offset) (ho1 : offset ≤ 9223372036854775807) :
    Calls Try.prog 3 #[.slice none 0 0, .int .i64 offset, .int .i64 n] w fun e w' => e = .returned (.bool true) ∧ Below w.heap.size w w' := by
  have hnil : ∀ (w : World) (a : Option Addr) (n c : Nat), (binOp .neq 22 (.slice a n c) (.slice none 0 0)).run Try.prog w = .ok (.bool (!a.isNone)) w := fun w a n c => run_neq_slice_nil_any w 22 5 a n c 0 0 Try.underlying22
  have hc : ¬ 68719476736 < n := by omega
  have hwant : (n - 1) / 16777215 + 1 = (want n : Int) := by unfold want; rw [if_neg (by omega)]; omega
  have hwl := want_le n hn
  have hel := encTo_len offset n (want n)
  go_enter Try.func3, Try.ntmps3
  go_wp2_with (first | (go_at_call 5; refine (zz_any w.heap.size _ [] offset n _ (World.ownsRow_nil _ _ _ _) (Nat.le_refl _) (by simp) hn (by omega) ho0 ho1).mono ?_; rintro e wx ⟨v', rfl, hout, hbel⟩; obtain ⟨a', c', rfl⟩ := owns_form hout; simp only [List.nil_append] at hout ⊢) | go_in)
  refine wp_loop_rounds 1 ?_; rw [rounds_succ]
  go_wp2
  clear hwant
  go_loop [12, 13] (fun p i => ∃ K : Nat, K ≤ want n ∧ p = .int .i64 ((0 + (encTo offset n K).length : Nat) : Int) ∧ i = .int .i64 K) (fun _ i => want n - (intOf i).toNat)
  case atStart => exact ⟨0, Nat.zero_le _, by simp [encTo], rfl⟩
  case round =>
    obtain ⟨K, hk, rfl, rfl⟩ := hrel
    by_cases hlt : K < want n
    · obtain ⟨g, rfl, hE⟩ := out_cells (xs := []) hout K hlt
      have hfit := (enc_at offset n K (want n) hlt).1
      have hol := one_len (offAt offset K) (sizeAt n K)
      have hop := one_pos (offAt offset K) (sizeAt n K)
      have hfoff := one_off (offAt offset K) (sizeAt n K)
      have hfsize := one_size (offAt offset K) (sizeAt n K)
      have HE : Hid (∀ j, j < (one (offAt offset K) (sizeAt n K)).length → wx.cell? ⟨g, 0 + (encTo offset n K).length + j, none⟩ = some (.int .u8 ((one (offAt offset K) (sizeAt n K)).getD j 0))) := hE
      have hE0 := HE.out 0 hop
      have h128 := and_128 (offAt offset K) (sizeAt n K)
      have Hq : Hid (offAt offset K = wrap64 (offset + K * 16777215)) := rfl
      have Hs : Hid (sizeAt n K = if n - K * 16777215 ≤ 16777215 then n - K * 16777215 else 16777215) := rfl
      rw [show (one (offAt offset K) (sizeAt n K)).getD 0 0 = (head (offAt offset K) (sizeAt n K) : Int) from rfl] at hE0
      generalize hp0 : 0 + (encTo offset n K).length = p0 at *
      try simp only [Nat.add_zero] at hE0
      have hT : p0 + (one (offAt offset K) (sizeAt n K)).length ≤ (encTo offset n (want n)).length := by omega
      have Hlen : Hid (0 + (encTo offset n (K + 1)).length = p0 + (one (offAt offset K) (sizeAt n K)).length) := by show _ = _; rw [← hp0]; simp only [encTo, List.length_append]; omega
      have hKn := (want_iff n K).1 hlt
      generalize offAt offset K = q at *
      generalize sizeAt n K = s at *
      have HO : Hid (∀ i, i < 4 → ¬ byteAt q i = 0 → 1 + (bytesTo q i).length < (one q s).length ∧ (one q s).getD (1 + (bytesTo q i).length) 0 = byteAt q i) := hfoff
      have HS : Hid (∀ i, i < 3 → ¬ byteAt s i = 0 → 1 + (bytesTo q 4).length + (bytesTo s i).length < (one q s).length ∧ (one q s).getD (1 + (bytesTo q 4).length + (bytesTo s i).length) 0 = byteAt s i) := hfsize
      clear hE hfoff hfsize hp0 hfit
      go_wp2
      clear hE0 h128
      go_loop [12, 15, 16] (fun p o i => ∃ j : Nat, j ≤ 4 ∧ p = .int .i64 ((p0 + 1 + (bytesTo q j).length : Nat) : Int) ∧ o = .int .u32 (q % 2 ^ (8 * j)) ∧ i = .int .i64 j) (fun _ _ i => 4 - (intOf i).toNat)
      case atStart => exact ⟨0, by omega, by simp [bytesTo], by simp, rfl⟩
      case round =>
        obtain ⟨j, hj, rfl, rfl, rfl⟩ := hrel
        by_cases hj4 : j < 4
        · have hbit := and_bit q s j hj4
          by_cases hne : byteAt q j = 0
          · rw [if_pos hne] at hbit
            have Hb := bytesTo_miss hne
            have Hl := low_succ q j hj4
            rw [hne] at Hl
            have HB : Hid (bytesTo q (j + 1) = bytesTo q j ∧ q % 2 ^ (8 * (j + 1)) = q % 2 ^ (8 * j)) := ⟨Hb, by omega⟩
            clear Hb Hl
            go_wp2
            go_round
            case rel => exact ⟨j + 1, by omega, by rw [HB.out.1], by rw [HB.out.2], by go_num⟩
            case measure => simp [intOf]; omega
          · rw [if_neg hne] at hbit
            obtain ⟨hb1, hb2⟩ := HO.out j hj4 hne
            have hcell := HE.out _ hb1
            rw [hb2, ← Nat.add_assoc] at hcell
            have h2 : ((2 : Int) ^ j != 0) = true := by have : (0 : Int) < 2 ^ j := Int.pow_pos (by decide); simp; omega
            have h3 : (byteAt q j == 0) = false := by simpa using hne
            have hbd := byteAt_bd q j
            clear hb2
            have HB : Hid (bytesTo q (j + 1) = bytesTo q j ++ [byteAt q j]) := bytesTo_hit hne
            go_wp2
            go_round
            case rel => exact ⟨j + 1, by omega, by rw [HB.out]; simp; omega, by rw [or_low q j hj4], by go_num⟩
            case measure => simp [intOf]; omega
        · obtain rfl : j = 4 := by omega
          go_wp2
          go_loop [12, 18, 19] (fun p o i => ∃ j : Nat, j ≤ 3 ∧ p = .int .i64 ((p0 + 1 + (bytesTo q 4).length + (bytesTo s j).length : Nat) : Int) ∧ o = .int .u32 (s % 2 ^ (8 * j)) ∧ i = .int .i64 j) (fun _ _ i => 3 - (intOf i).toNat)
          case atStart => exact ⟨0, by omega, by simp [bytesTo], by simp, rfl⟩
          case round =>
            obtain ⟨j, hj, rfl, rfl, rfl⟩ := hrel
            by_cases hj3 : j < 3
            · have hbit := and_bit3 q s j hj3
              by_cases hne : byteAt s j = 0
              · rw [if_pos hne] at hbit
                have Hb := bytesTo_miss hne
                have Hl := low_succ s j (by omega)
                rw [hne] at Hl
                have HB : Hid (bytesTo s (j + 1) = bytesTo s j ∧ s % 2 ^ (8 * (j + 1)) = s % 2 ^ (8 * j)) := ⟨Hb, by omega⟩
                clear Hb Hl
                go_wp2
                go_round
                case rel => exact ⟨j + 1, by omega, by rw [HB.out.1], by rw [HB.out.2], by go_num⟩
                case measure => simp [intOf]; omega
              · rw [if_neg hne] at hbit
                obtain ⟨hb1, hb2⟩ := HS.out j hj3 hne
                have hcell := HE.out _ hb1
                rw [hb2, ← Nat.add_assoc, ← Nat.add_assoc] at hcell
                have h2 : (16 * (2 : Int) ^ j != 0) = true := by have : (0 : Int) < 2 ^ j := Int.pow_pos (by decide); simp; omega
                have h3 : (byteAt s j == 0) = false := by simpa using hne
                have hbd := byteAt_bd s j
                clear hb2
                have HB : Hid (bytesTo s (j + 1) = bytesTo s j ++ [byteAt s j]) := bytesTo_hit hne
                go_wp2
                go_round
                case rel => exact ⟨j + 1, by omega, by rw [HB.out]; simp; omega, by rw [or_low s j (by omega)], by go_num⟩
                case measure => simp [intOf]; omega
            · obtain rfl : j = 3 := by omega
              have hq1 : (q % 4294967296 != wrap64 (offset + ↑K * 16777215) % 4294967296) = false := by rw [← Hq.out]; simp
              have hol3 : (one q s).length = 1 + (bytesTo q 4).length + (bytesTo s 3).length := by simp [one]; omega
              have HF : Hid (0 + (encTo offset n (K + 1)).length = p0 + 1 + (bytesTo q 4).length + (bytesTo s 3).length) := by have := Hlen.out; show _ = _; omega
              clear hol3
              by_cases hbig : n - K * 16777215 ≤ 16777215
              · have hs1 : (s % 16777216 != (n - ↑K * 16777215) % 4294967296) = false := by have h := Hs.out; rw [if_pos hbig] at h; rw [h]; simp; omega
                go_wp2
                go_round
                case rel => exact ⟨K + 1, by omega, by rw [HF.out], by go_num⟩
                case measure => simp [intOf]; omega
              · have hs1 : (s % 16777216 != 16777215) = false := by have h := Hs.out; rw [if_neg hbig] at h; rw [h]; simp
                go_wp2
                go_round
                case rel => exact ⟨K + 1, by omega, by rw [HF.out], by go_num⟩
                case measure => simp [intOf]; omega
    · obtain rfl : K = want n := by omega
      go_wp2
      go_ret
      exact ⟨rfl, hbel⟩
end Go.Proofs.Qxb6618463a
