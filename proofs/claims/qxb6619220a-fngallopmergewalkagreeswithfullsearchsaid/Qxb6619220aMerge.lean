/-
  The walks of 'zzBytes_FnGallopMergeWalkAgreesWithFullSearch' (10) and of the second law (4).
-/
import Derived.Test.Qxb6619220aFirst
namespace Go.Proofs.Qxb6619220a
open Go.RowKit Pl

/-- n strings lie where a slice leads. -/
def Strs (w : World) (a : Option Addr) (n : Nat) (S : Nat → ByteArray) : Prop := 0 < n → ∃ b off, a = some ⟨b, off, none⟩ ∧ ∀ i, i < n → w.cell? ⟨b, off + i, none⟩ = some (.string (S i))

theorem Strs.at {w : World} {a : Option Addr} {n : Nat} {S : Nat → ByteArray} (h : Strs w a n S) (k : Nat) (hk : k < n) : ∃ b off, a = some ⟨b, off, none⟩ ∧ w.cell? ⟨b, off + k, none⟩ = some (.string (S k)) := by
  obtain ⟨b, off, e, h⟩ := h (by omega)
  exact ⟨b, off, e, h k hk⟩

theorem Strs.below {w w1 : World} {a : Option Addr} {n : Nat} {S : Nat → ByteArray} (h : Strs w a n S) (hb : Below w.heap.size w w1) : Strs w1 a n S := by
  intro h0
  obtain ⟨b, off, e, h⟩ := h h0
  exact ⟨b, off, e, fun i hi => by rw [hb.cell (World.block_lt_of_cell? _ _ (h i hi))]; exact h i hi⟩

set_option maxHeartbeats 2000000 in
theorem zz10_any (a a' : Option Addr) (n c m c' : Nat) (S Q : Nat → ByteArray) (w : World) (hn : n ≤ 9223372036854775807) (hm : m ≤ 9223372036854775807)
    (hS : Strs w a n S) (hQ : Strs w a' m Q) (hsS : ∀ i, i < n → (S i).size ≤ 9223372036854775807) (hsQ : ∀ i, i < m → (Q i).size ≤ 9223372036854775807) :
    Calls Try.prog 10 #[.slice a n c, .slice a' m c'] w (Zz n S (m ≤ 1048576 ∧ ∀ i, i < m → (Q i).size ≤ 1048576) w) := by
  have HS : Hid (Strs w a n S) := hS
  have HQ : Hid (Strs w a' m Q) := hQ
  have HsS : Hid (∀ i, i < n → (S i).size ≤ 9223372036854775807) := hsS
  have HsQ : Hid (∀ i, i < m → (Q i).size ≤ 9223372036854775807) := hsQ
  clear hS hQ hsS hsQ
  by_cases hn1 : n ≤ 1048576
  · have hn1' : decide ((1048576 : Int) < (n : Int)) = false := by simp; omega
    go_enter Try.func10, Try.ntmps10
    go_wp2
    go_loop [5, 6] (fun z i => ∃ k T : Nat, i = .int .i64 k ∧ z = .int .i64 T ∧ k ≤ n ∧ T ≤ 1048576 ∧ (∀ i, i < k → (S i).size ≤ 1048576)) (fun _ i => n - (intOf i).toNat)
    case atStart => exact ⟨0, n, rfl, by go_num, Nat.zero_le _, hn1, fun i hi => by omega⟩
    case round =>
      obtain ⟨k, T, rfl, rfl, hk, hT, hall⟩ := hrel
      have HA : Hid (∀ i, i < k → (S i).size ≤ 1048576) := hall
      clear hall
      by_cases hlt : k < n
      · obtain ⟨b, off, rfl, hc1⟩ := HS.out.at k hlt
        have hs1 := HsS.out k hlt
        go_wp2
        · go_ret
          exact Zz.no
        · go_ret
          exact Zz.no
        · go_round
          case rel => exact ⟨k + 1, T + (S k).size, by go_num, by go_num, by omega, by omega, fun i hi => by
            by_cases e : i = k
            · rw [e]; omega
            · exact HA.out i (by omega)⟩
          case measure => simp [intOf]; omega
      · obtain rfl : k = n := by omega
        by_cases hm1 : m ≤ 1048576
        · have hm1' : decide ((1048576 : Int) < (m : Int)) = false := by simp; omega
          by_cases hT2 : T + m ≤ 1048576
          · have hT2' : decide ((1048576 : Int) < (T : Int) + (m : Int)) = false := by simp; omega
            go_wp2
            go_loop [5, 7] (fun z i => ∃ k T : Nat, i = .int .i64 k ∧ z = .int .i64 T ∧ k ≤ m ∧ T ≤ 1048576 ∧ (∀ i, i < k → (Q i).size ≤ 1048576)) (fun _ i => m - (intOf i).toNat)
            case atStart => exact ⟨0, T + m, rfl, by go_num, Nat.zero_le _, hT2, fun i hi => by omega⟩
            case round =>
              obtain ⟨j, U, rfl, rfl, hj, hU, hall⟩ := hrel
              have HB : Hid (∀ i, i < j → (Q i).size ≤ 1048576) := hall
              clear hall
              by_cases hlt2 : j < m
              · obtain ⟨b, off, rfl, hc1⟩ := HQ.out.at j hlt2
                have hs1 := HsQ.out j hlt2
                go_wp2
                · go_ret
                  exact Zz.no
                · go_ret
                  exact Zz.no
                · go_round
                  case rel => exact ⟨j + 1, U + (Q j).size, by go_num, by go_num, by omega, by omega, fun i hi => by
                    by_cases e : i = j
                    · rw [e]; omega
                    · exact HB.out i (by omega)⟩
                  case measure => simp [intOf]; omega
              · obtain rfl : j = m := by omega
                go_wp2
                go_ret
                exact Zz.yes hn1 HA.out HB.out
          · have hT2' : decide ((1048576 : Int) < (T : Int) + (m : Int)) = true := by simp; omega
            go_wp2
            go_ret
            exact Zz.no
        · go_wp2
          go_ret
          exact Zz.no
  · go_enter Try.func10, Try.ntmps10
    go_wp2
    go_ret
    exact Zz.no

/-- What 'strictlyAscending' tells. -/
def Asc (m : Nat) (Q : Nat → ByteArray) (w : World) (e : Ending) (w' : World) : Prop :=
  ∃ t, e = .returned (.bool t) ∧ (t = true → ∀ i, i + 1 < m → cmpS (Q i) (Q (i + 1)) < 0) ∧ ∃ q, w' = w.drewN q

theorem asc_strs (a : Option Addr) (m c : Nat) (Q : Nat → ByteArray) (w : World) (hm : m ≤ 1048576) (hQ : Strs w a m Q) (hs : ∀ i, i < m → (Q i).size ≤ 9223372036854775807) :
    Calls Try.prog 6 #[.slice a m c] w (Asc m Q w) := by
  by_cases h1 : m ≤ 1
  · refine (asc_short a m c h1 w).mono ?_
    rintro e w' ⟨rfl, rfl⟩
    exact ⟨true, rfl, fun _ i hi => by omega, 0, rfl⟩
  · obtain ⟨b, off, rfl, hc⟩ := hQ (by omega)
    exact (asc_any b off m c Q w hm hc hs).mono fun e w' h => h

theorem last_of {S Q : Nat → ByteArray} {n m : Nat} (hQ : ∀ i, i + 1 < m → cmpS (Q i) (Q (i + 1)) < 0) (h : 0 < cmpS (S (n - 1)) (Q (m - 1))) (k : Nat) (hk : k < m) : 0 < cmpS (S (n - 1)) (Q k) := by
  by_cases e : k = m - 1
  · rw [e]; exact h
  · have h1 := lt_of hQ (m - 1) k (by omega) (by omega)
    have h2 : ¬ cmpS (S (n - 1)) (Q k) ≤ 0 := fun hle => by
      by_cases e0 : cmpS (S (n - 1)) (Q k) = 0
      · rw [cmpS_eq e0] at h; omega
      · have := cmpS_trans (show cmpS (S (n - 1)) (Q k) < 0 by omega) (show cmpS (Q k) (Q (m - 1)) ≤ 0 by omega)
        omega
    omega

theorem zzgallop_zero (g n e : Nat) (S : Nat → ByteArray) (actor : ByteArray) (w : World) (hcell : ∀ i, i < n → w.cell? ⟨g, i * 2, none⟩ = some (.string (S i)))
    (hn : n ≤ 65536) (mono : ∀ i j, i < j → j < n → cmpS (S j) actor ≤ 0 → cmpS (S i) actor < 0) (hlast : 0 < cmpS (S (n - 1)) actor)
    (hfrom : 0 < n) (hen : e < n) (hmin : ∀ i, 0 ≤ i → i < e → cmpS (S i) actor < 0) (hce : 0 ≤ cmpS (S e) actor) :
    Calls Try.prog 9 #[.slice (some ⟨g, 0, none⟩) n n, .int .i64 0, .string actor] w fun r w' => r = .returned (.tuple #[.int .i64 e, .bool (cmpS (S e) actor == 0)]) ∧ w' = w :=
  zzgallop_any g n 0 e S actor w hcell hn mono hlast hfrom (Nat.zero_le _) hen hmin hce

set_option maxRecDepth 100000 in
set_option maxHeartbeats 8000000 in
theorem law4_some (x : Addr) (a' : Option Addr) (n c m c' : Nat) (S Q : Nat → ByteArray) (w : World) (hn : n ≤ 65536) (hm : m ≤ 65536)
    (hS : Strs w (some x) n S) (hQ : Strs w a' m Q) (hsS : ∀ i, i < n → (S i).size ≤ 9223372036854775807) (hsQ : ∀ i, i < m → (Q i).size ≤ 9223372036854775807) :
    Calls Try.prog 4 #[.slice (some x) n c, .slice a' m c'] w fun e w' => e = .returned (.bool true) ∧ Below w.heap.size w w' := by
  obtain ⟨i0, hi, hz0, hz1, hz2⟩ := info_parts Try.info9
  have hsz1 : (Try.prog.info? 9).map (·.size) = some 1 := by rw [hi]; simp [hz1]
  have hnil : ∀ (w : World) (a : Option Addr) (n c : Nat), (binOp .neq 22 (.slice a n c) (.slice none 0 0)).run Try.prog w = .ok (.bool (!a.isNone)) w := fun w a n c => run_neq_slice_nil_any w 22 9 a n c 0 0 Try.underlying22
  have HC : Hid (Strs w (some x) n S) := hS
  have HQ : Hid (Strs w a' m Q) := hQ
  have HZ : Hid _ := zz10_any (some x) a' n c m c' S Q w (by omega) (by omega) hS hQ hsS hsQ
  clear hS hQ hsS hsQ
  have hn' : decide ((65536 : Int) < (n : Int)) = false := by simp; omega
  have hm' : decide ((65536 : Int) < (m : Int)) = false := by simp; omega
  go_enter Try.func4, Try.ntmps4
  go_wp2_with fail
  refine Calls.mono HZ.out ?_
  rintro e w2 ⟨t, rfl, ht, hw⟩
  have hw' := hw.symm
  clear hw HZ
  subst hw'
  cases t with
  | false =>
    clear ht
    go_wp2
    go_ret
    exact ⟨rfl, Below.refl _ _⟩
  | true =>
    obtain ⟨-, hS, -, hQs⟩ := ht rfl
    have HS : Hid (∀ i, i < n → (S i).size ≤ 1048576) := hS
    have HQs : Hid (∀ i, i < m → (Q i).size ≤ 1048576) := hQs
    clear ht hS hQs
    by_cases htot : 16 * n + 16 * m ≤ 1048576
    · have htot' : decide ((1048576 : Int) < 16 * (n : Int) + 16 * (m : Int)) = false := by simp; omega
      go_wp2_with (first
        | (at_make; refine wpList_make_full _ rfl (.tmp 34) (.tmp 34) 22 rfl w.heap.size 9 i0 (.string ⟨#[]⟩) 1 Try.underlying22 hi hz0 hz1 .i64 .i64 _ _ n rfl rfl rfl rfl (by rw [hz2]; omega) (by unfold maxLen; omega) (Nat.le_refl _) ?_; intro w1 hown1 hgrow1; have hb1 : Below w.heap.size w w1 := (Below.refl _ _).grown hgrow1 (Nat.le_refl _) (fun k hk => by cases hk); have hg1 := block_of_full hown1; clear hown1 hgrow1)
        | (refine wpList_copy_splice (by rfl) (.tmp 36) (.tmp 37) 22 22 (by rfl) 9 Try.underlying22 hsz1 (some ⟨w.heap.size, 0, none⟩) (some x) n n n c (by rfl) (by rfl) w.heap.size 0 _ 9 hg1 (SL S n) (by rw [SL_len]; simp) (fun h => ⟨rfl, x, rfl, by obtain ⟨b, off, e, hc⟩ := HC.out (by rw [SL_len] at h; exact h); cases e; exact SL_src hc hb1⟩) (by rw [cells_made, SL_len]; omega) (SL_one S n) w.heap.size w hb1 (Nat.le_refl _) ?_; intro w2 HG2 hB2))
      have hg2 : w2.heap[w.heap.size]? = some (.cells (SL S n).toArray 9 (0, 0)) := by
        have := HG2.out
        rw [splice_all _ _ (by rw [cells_made, SL_len])] at this
        exact this
      clear HG2 hg1 hb1
      have HK : Hid (∀ i, i < n → w2.cell? ⟨w.heap.size, 0 + i, none⟩ = some (.string (S i))) := fun i hi => SL_cell hg2 i hi
      have HQ2 : Hid (Strs w2 a' m Q) := HQ.out.below hB2
      clear hg2 HC HQ
      go_loop [6, 7] (fun t i => ∃ k T : Nat, i = .int .i64 k ∧ t = .int .i64 T ∧ k ≤ n ∧ T ≤ 1048576) (fun _ i => n - (intOf i).toNat)
      case atStart => exact ⟨0, 16 * n + 16 * m, rfl, by go_num, Nat.zero_le _, htot⟩
      case round =>
        obtain ⟨k, T, rfl, rfl, hk, hT⟩ := hrel
        by_cases hlt : k < n
        · have hc1 := HK.out k hlt
          have hs1 := HS.out k hlt
          rw [Nat.zero_add] at hc1
          go_wp2
          · go_ret
            exact ⟨rfl, hB2⟩
          · go_round
            case rel => exact ⟨k + 1, T + (S k).size, by go_num, by go_num, by omega, by omega⟩
            case measure => simp [intOf]; omega
        · obtain rfl : k = n := by omega
          go_wp2
          go_loop [6, 8] (fun t i => ∃ k T : Nat, i = .int .i64 k ∧ t = .int .i64 T ∧ k ≤ m ∧ T ≤ 1048576) (fun _ i => m - (intOf i).toNat)
          case atStart => exact ⟨0, T, rfl, rfl, Nat.zero_le _, hT⟩
          case round =>
            obtain ⟨j, U, rfl, rfl, hj, hU⟩ := hrel
            by_cases hlt2 : j < m
            · obtain ⟨b, off, rfl, hc1⟩ := HQ2.out.at j hlt2
              have hs1 := HQs.out j hlt2
              go_wp2
              · go_ret
                exact ⟨rfl, hB2⟩
              · go_round
                case rel => exact ⟨j + 1, U + (Q j).size, by go_num, by go_num, by omega, by omega⟩
                case measure => simp [intOf]; omega
            · obtain rfl : j = m := by omega
              by_cases hk0 : k = 0
              · have hn0 : ((k : Int) == 0) = true := by simp; omega
                go_wp2
                go_ret
                exact ⟨rfl, hB2⟩
              · have hn0 : ((k : Int) == 0) = false := by simp; omega
                have HA6 : Hid _ := asc_any w.heap.size 0 k k S w2 (by omega) HK.out (fun i hi => by have := HS.out i hi; omega)
                go_wp2_with fail
                refine Calls.mono HA6.out ?_
                rintro e w3 ⟨t, rfl, ht, m1, hw3⟩
                have HW3 : Hid (w3 = w2.drewN m1) := hw3
                have hB3 : Below w.heap.size w w3 := by rw [HW3.out]; exact below_drewN hB2 _
                have HK3 : Hid (∀ i, i < k → w3.cell? ⟨w.heap.size, 0 + i, none⟩ = some (.string (S i))) := by intro i hi; rw [HW3.out]; exact HK.out i hi
                have HQ3 : Hid (Strs w3 a' j Q) := by have := HQ2.out; rw [HW3.out]; exact this
                clear hw3 HA6 HK hB2 HW3 HQ2
                cases t with
                | false =>
                  clear ht
                  go_wp2
                  go_ret
                  exact ⟨rfl, hB3⟩
                | true =>
                  have HSS : Hid (∀ i, i + 1 < k → cmpS (S i) (S (i + 1)) < 0) := ht rfl
                  clear ht
                  have HA7 : Hid _ := asc_strs a' j c' Q w3 (by omega) HQ3.out (fun i hi => by have := HQs.out i hi; omega)
                  go_wp2_with fail
                  refine Calls.mono HA7.out ?_
                  rintro e w4 ⟨t, rfl, ht, m2, hw4⟩
                  have HW4 : Hid (w4 = w3.drewN m2) := hw4
                  have hB4 : Below w.heap.size w w4 := by rw [HW4.out]; exact below_drewN hB3 _
                  have HK4 : Hid (∀ i, i < k → w4.cell? ⟨w.heap.size, 0 + i, none⟩ = some (.string (S i))) := by intro i hi; rw [HW4.out]; exact HK3.out i hi
                  have HQ4 : Hid (Strs w4 a' j Q) := by have := HQ3.out; rw [HW4.out]; exact this
                  clear hw4 HA7 HK3 hB3 HW4 HQ3
                  cases t with
                  | false =>
                    clear ht
                    go_wp2
                    go_ret
                    exact ⟨rfl, hB4⟩
                  | true =>
                    have HQQ : Hid (∀ i, i + 1 < j → cmpS (Q i) (Q (i + 1)) < 0) := ht rfl
                    clear ht
                    by_cases hj0 : j = 0
                    · have hd : decide ((0 : Int) < (j : Int)) = false := by simp; omega
                      go_wp2_with fail
                      go_quiet (fail)
                      go_wp2_with fail
                      refine (entries_any w.heap.size 0 k k S _ (by omega) (by exact fun i hi => HK4.out i hi)).mono ?_
                      rintro r5 w5 ⟨rfl, hcs, hb5⟩
                      clear hcs
                      have hB5 : Below w.heap.size w w5 := (below_drewN hB4 _).trans (hb5.mono hB4.size)
                      clear hb5
                      go_wp2
                      refine wp_loop_rounds 1 ?_; rw [rounds_succ]
                      go_wp2
                      go_ret
                      exact ⟨rfl, hB5⟩
                    · obtain ⟨b, off, rfl, hcq⟩ := HQ4.out (by omega)
                      have HCQ : Hid (∀ i, i < j → w4.cell? ⟨b, off + i, none⟩ = some (.string (Q i))) := hcq
                      clear hcq HQ4
                      obtain ⟨kp, hkp⟩ : ∃ kp : Nat, kp = k - 1 := ⟨_, rfl⟩
                      obtain ⟨jp, hjp⟩ : ∃ jp : Nat, jp = j - 1 := ⟨_, rfl⟩
                      have hc1 := HK4.out kp (by omega)
                      rw [Nat.zero_add] at hc1
                      have hc2 := HCQ.out jp (by omega)
                      have hs1 := HS.out kp (by omega)
                      have hs2 := HQs.out jp (by omega)
                      have hl0 : 0 < j := by omega
                      have hl1 : (kp : Int) < (k : Int) := by omega
                      have hl2 : (jp : Int) < (j : Int) := by omega
                      have hw1 : IntKind.i64.wrap ((k : Int) - 1) = kp := by rw [IntKind.wrap_i64]; omega
                      have hw2 : IntKind.i64.wrap ((j : Int) - 1) = jp := by rw [IntKind.wrap_i64]; omega
                      have HKP : Hid (kp = k - 1) := hkp
                      have HJP : Hid (jp = j - 1) := hjp
                      clear hkp hjp
                      by_cases hlast : cmpS (S kp) (Q jp) ≤ 0
                      · go_wp2_with fail
                        go_quiet ((go_at_call 7; exact Calls.quiet_of (cmpStr_any _ _ _ (by omega) (by omega))))
                        go_wp2
                        go_ret
                        exact ⟨rfl, below_drewN hB4 _⟩
                      · have hld : decide (cmpS (S kp) (Q jp) ≤ 0) = false := by simpa using hlast
                        go_wp2_with fail
                        go_quiet ((go_at_call 7; exact Calls.quiet_of (cmpStr_any _ _ _ (by omega) (by omega))))
                        go_wp2_with fail
                        refine (entries_any w.heap.size 0 k k S _ (by omega) (by exact fun i hi => HK4.out i hi)).mono ?_
                        rintro r5 w5 ⟨rfl, hcs, hb5⟩
                        have HE5 : Hid (∀ i, i < k → w5.cell? ⟨w4.heap.size, i * 2, none⟩ = some (.string (S i))) := hcs
                        have hB5 : Below w.heap.size w w5 := (below_drewN hB4 _).trans (hb5.mono hB4.size)
                        have HK5 : Hid (∀ i, i < k → w5.cell? ⟨w.heap.size, 0 + i, none⟩ = some (.string (S i))) := fun i hi => (hb5.cell (World.block_lt_of_cell? w4 _ (HK4.out i hi))).trans (HK4.out i hi)
                        have HQ5 : Hid (∀ i, i < j → w5.cell? ⟨b, off + i, none⟩ = some (.string (Q i))) := fun i hi => (hb5.cell (World.block_lt_of_cell? w4 _ (HCQ.out i hi))).trans (HCQ.out i hi)
                        have HLA : Hid (∀ q, q < j → 0 < cmpS (S (k - 1)) (Q q)) := fun q hq => last_of HQQ.out (by rw [← HKP.out, ← HJP.out]; omega) q hq
                        have HLQ : Hid (∀ p q, p < q → q < j → cmpS (Q p) (Q q) < 0) := fun p q => lt_of HQQ.out q p
                        clear hcs hb5 HK4 HCQ hlast hw1 hw2 hc1 hc2 hs1 hs2
                        go_wp2
                        go_loopw [12, 13, 14] (fun sf se sk wr => ∃ q e f d : Nat, sk = .int .i64 q ∧ se = .int .i64 e ∧ sf = .int .i64 f ∧ q ≤ j ∧ e < k ∧ f < k ∧ (∀ i, i < e → ∀ p, q ≤ p → p < j → cmpS (S i) (Q p) < 0) ∧ (∀ i, i < f → ∀ p, q ≤ p → p < j → cmpS (S i) (Q p) < 0) ∧ wr = w5.drewN d) (fun _ _ sk _ => j - (intOf sk).toNat)
                        case atStart => exact ⟨0, 0, 0, 0, rfl, rfl, rfl, Nat.zero_le _, by omega, by omega, fun i hi => by omega, fun i hi => by omega, rfl⟩
                        case round =>
                          obtain ⟨q, e, f, d, rfl, rfl, rfl, hqj, hek, hfk, hA, hB, hwr⟩ := hrel
                          by_cases hlt3 : q < j
                          · have HA1 : Hid (∀ i, i < e → cmpS (S i) (Q q) < 0) := fun i hi => hA i hi q (Nat.le_refl _) hlt3
                            have HB1 : Hid (∀ i, i < f → cmpS (S i) (Q q) < 0) := fun i hi => hB i hi q (Nat.le_refl _) hlt3
                            have HWR : Hid (wr = w5.drewN d) := hwr
                            have hcq : wr.cell? ⟨b, off + q, none⟩ = some (.string (Q q)) := by rw [HWR.out]; exact HQ5.out q hlt3
                            have hsq := HQs.out q hlt3
                            have hl3 : (q : Int) < (j : Int) := by omega
                            have HL : Hid (0 < cmpS (S (k - 1)) (Q q)) := HLA.out q hlt3
                            have HM : Hid (∀ i j, i < j → j < k → cmpS (S j) (Q q) ≤ 0 → cmpS (S i) (Q q) < 0) := mono_of HSS.out (Q q)
                            clear hA hB hwr
                            go_wp2
                            go_loopw [13] (fun se wi => ∃ e d : Nat, se = .int .i64 e ∧ e < k ∧ (∀ i, i < e → cmpS (S i) (Q q) < 0) ∧ wi = w5.drewN d) (fun se _ => k - (intOf se).toNat)
                            case atStart => exact ⟨e, d, rfl, hek, HA1.out, HWR.out⟩
                            case round =>
                              clear HA1 HWR hek hcq
                              obtain ⟨e, d, rfl, hek, hA, hwr⟩ := hrel
                              have HA1 : Hid (∀ i, i < e → cmpS (S i) (Q q) < 0) := hA
                              have HWR : Hid (wr = w5.drewN d) := hwr
                              have hc1 : wr.cell? ⟨w.heap.size, e, none⟩ = some (.string (S e)) := by
                                have := HK5.out e hek
                                rw [Nat.zero_add] at this
                                rw [HWR.out]; exact this
                              have hs1 := HS.out e hek
                              have hl4 : (e : Int) < (k : Int) := by omega
                              clear hA hwr
                              by_cases hce : cmpS (S e) (Q q) < 0
                              · have hne : e ≠ k - 1 := fun e1 => by have := HL.out; rw [← e1] at this; omega
                                have HA2 : Hid (∀ i, i < e + 1 → cmpS (S i) (Q q) < 0) := fun i h2 => by
                                  by_cases e1 : i = e
                                  · rw [e1]; exact hce
                                  · exact HA1.out i (by omega)
                                go_wp2_with (go_at_call 7; refine (cmpStr_any _ _ _ (by omega) (by omega)).mono ?_; rintro e w4 ⟨rfl, m2, hw4⟩; subst hw4)
                                go_roundw
                                case rel => exact ⟨e + 1, _, by go_num, by omega, HA2.out, by rw [HWR.out, World.drewN_drewN]⟩
                                case measure => simp [intOf]; omega
                              · have hce' : 0 ≤ cmpS (S e) (Q q) := by omega
                                have hfe : f ≤ e := by
                                  have h2 : ¬ e < f := fun hlt => hce (HB1.out e hlt)
                                  omega
                                have HA3 : Hid (∀ i, i < e → ∀ p, q + 1 ≤ p → p < j → cmpS (S i) (Q p) < 0) := fun i hi p h1 h2 => cmpS_trans (HA1.out i hi) (by have := HLQ.out q p (by omega) h2; omega)
                                by_cases hz : cmpS (S e) (Q q) = 0
                                · have hne : e ≠ k - 1 := fun e1 => by have := HL.out; rw [← e1] at this; omega
                                  have HB3 : Hid (∀ i, i < e + 1 → ∀ p, q + 1 ≤ p → p < j → cmpS (S i) (Q p) < 0) := fun i hi p h1 h2 => by
                                    by_cases e1 : i = e
                                    · rw [e1, cmpS_eq hz]; exact HLQ.out q p (by omega) h2
                                    · exact HA3.out i (by omega) p h1 h2
                                  have hb0 : (cmpS (S e) (Q q) == 0) = true := by simpa using hz
                                  go_wp2_with (go_at_call 7; refine (cmpStr_any _ _ _ (by omega) (by omega)).mono ?_; rintro e w4 ⟨rfl, m2, hw4⟩; subst hw4)
                                  refine (zzgallop_any w4.heap.size k f e S (Q q) _ (by rw [HWR.out]; exact HE5.out) hn HM.out HL.out hfk hfe hek (fun i _ hi => HA1.out i hi) hce').mono ?_
                                  rintro r6 w6 ⟨rfl, rfl⟩
                                  go_wp2_with fail
                                  refine (zzgallop_zero w4.heap.size k e S (Q q) _ (by rw [HWR.out]; exact HE5.out) hn HM.out HL.out (by omega) hek (fun i _ hi => HA1.out i hi) hce').mono ?_
                                  rintro r7 w7 ⟨rfl, rfl⟩
                                  go_wp2
                                  go_roundw
                                  case rel => exact ⟨q + 1, e, e + 1, _, by go_num, rfl, by go_num, by omega, hek, by omega, HA3.out, HB3.out, by rw [HWR.out, World.drewN_drewN]⟩
                                  case measure => simp [intOf]; omega
                                · have hb0 : (cmpS (S e) (Q q) == 0) = false := by simpa using hz
                                  go_wp2_with (go_at_call 7; refine (cmpStr_any _ _ _ (by omega) (by omega)).mono ?_; rintro e w4 ⟨rfl, m2, hw4⟩; subst hw4)
                                  refine (zzgallop_any w4.heap.size k f e S (Q q) _ (by rw [HWR.out]; exact HE5.out) hn HM.out HL.out hfk hfe hek (fun i _ hi => HA1.out i hi) hce').mono ?_
                                  rintro r6 w6 ⟨rfl, rfl⟩
                                  go_wp2_with fail
                                  refine (zzgallop_zero w4.heap.size k e S (Q q) _ (by rw [HWR.out]; exact HE5.out) hn HM.out HL.out (by omega) hek (fun i _ hi => HA1.out i hi) hce').mono ?_
                                  rintro r7 w7 ⟨rfl, rfl⟩
                                  go_wp2
                                  go_roundw
                                  case rel => exact ⟨q + 1, e, e, _, by go_num, rfl, rfl, by omega, hek, by omega, HA3.out, HA3.out, by rw [HWR.out, World.drewN_drewN]⟩
                                  case measure => simp [intOf]; omega
                          · go_wp2
                            go_ret
                            exact ⟨rfl, below_drewN hB5 _⟩
    · go_wp2_with (first
        | (at_make; refine wpList_make_full _ rfl (.tmp 34) (.tmp 34) 22 rfl w.heap.size 9 i0 (.string ⟨#[]⟩) 1 Try.underlying22 hi hz0 hz1 .i64 .i64 _ _ n rfl rfl rfl rfl (by rw [hz2]; omega) (by unfold maxLen; omega) (Nat.le_refl _) ?_; intro w1 hown1 hgrow1; have hb1 : Below w.heap.size w w1 := (Below.refl _ _).grown hgrow1 (Nat.le_refl _) (fun k hk => by cases hk); have hg1 := block_of_full hown1; clear hown1 hgrow1)
        | (refine wpList_copy_splice (by rfl) (.tmp 36) (.tmp 37) 22 22 (by rfl) 9 Try.underlying22 hsz1 (some ⟨w.heap.size, 0, none⟩) (some x) n n n c (by rfl) (by rfl) w.heap.size 0 _ 9 hg1 (SL S n) (by rw [SL_len]; simp) (fun h => ⟨rfl, x, rfl, by obtain ⟨b, off, e, hc⟩ := HC.out (by rw [SL_len] at h; exact h); cases e; exact SL_src hc hb1⟩) (by rw [cells_made, SL_len]; omega) (SL_one S n) w.heap.size w hb1 (Nat.le_refl _) ?_; intro w2 HG2 hB2))
      go_ret
      exact ⟨rfl, hB2⟩

set_option maxRecDepth 100000 in
set_option maxHeartbeats 2000000 in
theorem law4_long (a a' : Option Addr) (n c m c' : Nat) (S Q : Nat → ByteArray) (w : World) (hn : n ≤ 9223372036854775807) (hm : m ≤ 9223372036854775807) (h : 65536 < n ∨ 65536 < m)
    (hS : Strs w a n S) (hQ : Strs w a' m Q) (hsS : ∀ i, i < n → (S i).size ≤ 9223372036854775807) (hsQ : ∀ i, i < m → (Q i).size ≤ 9223372036854775807) :
    Calls Try.prog 4 #[.slice a n c, .slice a' m c'] w fun e w' => e = .returned (.bool true) ∧ Below w.heap.size w w' := by
  have HZ : Hid _ := zz10_any a a' n c m c' S Q w hn hm hS hQ hsS hsQ
  clear hS hQ hsS hsQ
  go_enter Try.func4, Try.ntmps4
  go_wp2_with fail
  refine Calls.mono HZ.out ?_
  rintro e w2 ⟨t, rfl, ht, hw⟩
  have hw' := hw.symm
  clear hw HZ
  subst hw'
  cases t with
  | false =>
    clear ht h
    go_wp2
    go_ret
    exact ⟨rfl, Below.refl _ _⟩
  | true =>
    clear ht
    by_cases h1 : 65536 < n
    · clear h
      go_wp2
      go_ret
      exact ⟨rfl, Below.refl _ _⟩
    · have h2 : 65536 < m := by omega
      clear h
      go_wp2
      go_ret
      exact ⟨rfl, Below.refl _ _⟩

set_option maxRecDepth 100000 in
set_option maxHeartbeats 2000000 in
theorem law4_nil (a' : Option Addr) (m c' : Nat) (Q : Nat → ByteArray) (w : World) (hm : m ≤ 65536) (hQ : Strs w a' m Q) (hsQ : ∀ i, i < m → (Q i).size ≤ 9223372036854775807) :
    Calls Try.prog 4 #[.slice none 0 0, .slice a' m c'] w fun e w' => e = .returned (.bool true) ∧ Below w.heap.size w w' := by
  have hnil : ∀ (w : World) (a : Option Addr) (n c : Nat), (binOp .neq 22 (.slice a n c) (.slice none 0 0)).run Try.prog w = .ok (.bool (!a.isNone)) w := fun w a n c => run_neq_slice_nil_any w 22 9 a n c 0 0 Try.underlying22
  have HQ : Hid (Strs w a' m Q) := hQ
  have HZ : Hid _ := zz10_any none a' 0 0 m c' (fun _ => ⟨#[]⟩) Q w (by omega) (by omega) (fun h => by omega) hQ (fun i hi => by omega) hsQ
  clear hQ hsQ
  have hm' : decide ((65536 : Int) < (m : Int)) = false := by simp; omega
  have htot' : decide ((1048576 : Int) < 16 * (m : Int)) = false := by simp; omega
  go_enter Try.func4, Try.ntmps4
  go_wp2_with fail
  refine Calls.mono HZ.out ?_
  rintro e w2 ⟨t, rfl, ht, hw⟩
  have hw' := hw.symm
  clear hw HZ
  subst hw'
  cases t with
  | false =>
    clear ht
    go_wp2
    go_ret
    exact ⟨rfl, Below.refl _ _⟩
  | true =>
    obtain ⟨-, -, -, hQs⟩ := ht rfl
    have HQs : Hid (∀ i, i < m → (Q i).size ≤ 1048576) := hQs
    clear ht hQs
    go_wp2
    refine wp_loop_rounds 1 ?_; rw [rounds_succ]
    go_wp2
    go_loop [6, 8] (fun t i => ∃ k T : Nat, i = .int .i64 k ∧ t = .int .i64 T ∧ k ≤ m ∧ T ≤ 1048576) (fun _ i => m - (intOf i).toNat)
    case atStart => exact ⟨0, 16 * m, rfl, by go_num, Nat.zero_le _, by omega⟩
    case round =>
      obtain ⟨j, U, rfl, rfl, hj, hU⟩ := hrel
      by_cases hlt2 : j < m
      · obtain ⟨b, off, rfl, hc1⟩ := HQ.out.at j hlt2
        have hs1 := HQs.out j hlt2
        go_wp2
        · go_ret
          exact ⟨rfl, Below.refl _ _⟩
        · go_round
          case rel => exact ⟨j + 1, U + (Q j).size, by go_num, by go_num, by omega, by omega⟩
          case measure => simp [intOf]; omega
      · go_wp2
        go_ret
        exact ⟨rfl, Below.refl _ _⟩

end Go.Proofs.Qxb6619220a
