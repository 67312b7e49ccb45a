/-
  The walks of 'zzBytes_FnGallopIsFirstNotBefore' (5) and of the first law (3).
-/
import Derived.Test.Qxb6619220aGallop
import Derived.Laws.CopyOwn
namespace Go.Proofs.Qxb6619220a
open Go.RowKit Pl

theorem Try.info9 : (Try.prog.info? 9).map (fun i => (i.zero, i.size, i.bytes)) = some (some (.string ⟨#[]⟩), 1, 16) := by kernel_rfl

/-- What the bound's bool tells. -/
def Zz (n : Nat) (S : Nat → ByteArray) (p : Prop) (w : World) (e : Ending) (w' : World) : Prop :=
  ∃ t, e = .returned (.bool t) ∧ (t = true → n ≤ 1048576 ∧ (∀ i, i < n → (S i).size ≤ 1048576) ∧ p) ∧ w' = w

theorem Zz.no {n : Nat} {S : Nat → ByteArray} {p : Prop} {w : World} : Zz n S p w (.returned (.bool false)) w := ⟨false, rfl, (fun h => by cases h), rfl⟩
theorem Zz.yes {n : Nat} {S : Nat → ByteArray} {p : Prop} {w : World} (h1 : n ≤ 1048576) (h2 : ∀ i, i < n → (S i).size ≤ 1048576) (h3 : p) : Zz n S p w (.returned (.bool true)) w := ⟨true, rfl, fun _ => ⟨h1, h2, h3⟩, rfl⟩

set_option maxHeartbeats 1000000 in
theorem zz5_any (b off n c : Nat) (S : Nat → ByteArray) (from_ : Int) (actor : ByteArray) (w : World) (hn : n ≤ 9223372036854775807) (ha : actor.size ≤ 9223372036854775807)
    (hcell : ∀ i, i < n → w.cell? ⟨b, off + i, none⟩ = some (.string (S i))) (hsz : ∀ i, i < n → (S i).size ≤ 9223372036854775807) :
    Calls Try.prog 5 #[.slice (some ⟨b, off, none⟩) n c, .int .i64 from_, .string actor] w (Zz n S (actor.size ≤ 1048576) w) := by
  have HC : Hid (∀ i, i < n → w.cell? ⟨b, off + i, none⟩ = some (.string (S i))) := hcell
  have HS : Hid (∀ i, i < n → (S i).size ≤ 9223372036854775807) := hsz
  clear hcell hsz
  by_cases hn1 : n ≤ 1048576
  · go_enter Try.func5, Try.ntmps5
    go_wp2
    go_loop [7, 8] (fun z i => ∃ k T : Nat, i = .int .i64 k ∧ z = .int .i64 T ∧ k ≤ n ∧ T ≤ 1048576 ∧ (∀ i, i < k → (S i).size ≤ 1048576)) (fun _ i => n - (intOf i).toNat)
    case atStart => exact ⟨0, n, rfl, by go_num, Nat.zero_le _, hn1, fun i hi => by omega⟩
    case round =>
      obtain ⟨k, T, rfl, rfl, hk, hT, hall⟩ := hrel
      have HA : Hid (∀ i, i < k → (S i).size ≤ 1048576) := hall
      clear hall
      by_cases hlt : k < n
      · have hc1 := HC.out k hlt
        have hs1 := HS.out k hlt
        go_wp2
        · go_ret
          exact Zz.no
        · go_ret
          exact Zz.no
        · go_round
          case rel => exact ⟨k + 1, T + (S k).size, by go_num, by go_num, by omega, by omega, fun i hi => by
            by_cases e : i = k
            · rw [e]; omega
            · exact HA.out i (by omega)⟩
          case measure => simp [intOf]; omega
      · obtain rfl : k = n := by omega
        go_wp2
        all_goals go_ret
        · exact Zz.no
        · exact Zz.no
        · exact Zz.yes hn1 HA.out (by omega)
  · go_enter Try.func5, Try.ntmps5
    go_wp2
    go_ret
    exact Zz.no

/-- The cells of n strings. -/
def SL (S : Nat → ByteArray) (n : Nat) : List Value := (List.range n).map fun i => Value.string (S i)
theorem SL_len (S : Nat → ByteArray) (n : Nat) : (SL S n).length = n := by simp [SL]
theorem SL_at (S : Nat → ByteArray) (n i : Nat) (h : i < n) : (SL S n)[i]? = some (.string (S i)) := by simp [SL, h]
theorem SL_one (S : Nat → ByteArray) (n : Nat) : ∀ v ∈ SL S n, v.oneCell' = true := by
  intro v hv
  obtain ⟨_, _, rfl⟩ := List.mem_map.1 hv
  rfl
theorem SL_src {w w1 : World} {b off n : Nat} {S : Nat → ByteArray} (hcell : ∀ i, i < n → w.cell? ⟨b, off + i, none⟩ = some (.string (S i))) (hb : Below w.heap.size w w1) :
    ∀ j v, (SL S n)[j]? = some v → w1.cell? ((⟨b, off, none⟩ : Addr).add j) = some v := by
  intro j v hv
  have hj : j < n := by
    have := (List.getElem?_eq_some_iff.1 hv).1
    simpa [SL_len] using this
  have h := hcell j hj
  rw [Addr.add_lit, hb.cell (World.block_lt_of_cell? _ _ h), h]
  rw [SL_at S n j hj] at hv
  exact hv
theorem SL_cell {w : World} {g n : Nat} {S : Nat → ByteArray} (h : w.heap[g]? = some (.cells (SL S n).toArray 9 (0, 0))) (j : Nat) (hj : j < n) : w.cell? ⟨g, 0 + j, none⟩ = some (.string (S j)) := by
  rw [Nat.zero_add, cell_of_row w g j _ 9 (0, 0) h]
  simpa using SL_at S n j hj
theorem block_of_full {w : World} {base : Nat} {e : TypeId} {g n : Nat} {xs : List Value} (h : w.ownsRow base e 1 (.slice (some ⟨g, 0, none⟩) n n) n xs) : w.heap[g]? = some (.cells xs.toArray e (0, 0)) := by
  rcases h.2 with ⟨h', _⟩ | ⟨g', cap', cur, h', _, hg, _, _, hcs, htake⟩
  · simp at h'
  · simp only [Value.slice.injEq, Option.some.injEq, Addr.mk.injEq, and_true, true_and] at h'
    obtain ⟨rfl, rfl⟩ := h'
    rw [hg, ← htake, List.take_of_length_le (by simp; omega)]
theorem splice_all {α : Type} (Z cs : List α) (h : cs.length = Z.length) : splice Z 0 cs = cs := by
  simp [splice, h]
theorem cells_made (n : Nat) : (madeCells (Value.string ⟨#[]⟩).cells (n * 1)).toList.length = n := by simp [Value.cells, toList_madeCells_one]

theorem lt_of {S : Nat → ByteArray} {n : Nat} (h : ∀ i, i + 1 < n → cmpS (S i) (S (i + 1)) < 0) : ∀ j i, i < j → j < n → cmpS (S i) (S j) < 0
  | 0, i => by omega
  | j + 1, i => by
    intro hij hj
    have hs := h j hj
    by_cases e : i = j
    · subst e; exact hs
    · exact cmpS_trans (lt_of h j i (by omega) (by omega)) (by omega)
theorem mono_of {S : Nat → ByteArray} {n : Nat} (h : ∀ i, i + 1 < n → cmpS (S i) (S (i + 1)) < 0) (actor : ByteArray) : ∀ i j, i < j → j < n → cmpS (S j) actor ≤ 0 → cmpS (S i) actor < 0 :=
  fun i j hij hj hc => cmpS_trans (lt_of h j i hij hj) hc

set_option maxRecDepth 100000 in
set_option maxHeartbeats 4000000 in
theorem law3_some (b off n c : Nat) (S : Nat → ByteArray) (from_ : Int) (actor : ByteArray) (w : World) (h0 : 0 < n) (hn : n ≤ 65536) (ha : actor.size ≤ 9223372036854775807)
    (hcell : ∀ i, i < n → w.cell? ⟨b, off + i, none⟩ = some (.string (S i))) (hsz : ∀ i, i < n → (S i).size ≤ 9223372036854775807) :
    Calls Try.prog 3 #[.slice (some ⟨b, off, none⟩) n c, .int .i64 from_, .string actor] w fun e w' => e = .returned (.bool true) ∧ Below w.heap.size w w' := by
  obtain ⟨i0, hi, hz0, hz1, hz2⟩ := info_parts Try.info9
  have hsz1 : (Try.prog.info? 9).map (·.size) = some 1 := by rw [hi]; simp [hz1]
  have hnil : ∀ (w : World) (a : Option Addr) (n c : Nat), (binOp .neq 22 (.slice a n c) (.slice none 0 0)).run Try.prog w = .ok (.bool (!a.isNone)) w := fun w a n c => run_neq_slice_nil_any w 22 9 a n c 0 0 Try.underlying22
  have HC : Hid (∀ i, i < n → w.cell? ⟨b, off + i, none⟩ = some (.string (S i))) := hcell
  have HZ : Hid _ := zz5_any b off n c S from_ actor w (by omega) ha hcell hsz
  clear hcell hsz
  go_enter Try.func3, Try.ntmps3
  go_wp2_with fail
  refine Calls.mono HZ.out ?_
  rintro e w2 ⟨t, rfl, ht, hw⟩
  have hw' := hw.symm
  clear hw HZ
  subst hw'
  cases t with
  | false =>
    clear ht
    go_wp2
    go_ret
    exact ⟨rfl, Below.refl _ _⟩
  | true =>
    obtain ⟨-, hS, hA⟩ := ht rfl
    have HS : Hid (∀ i, i < n → (S i).size ≤ 1048576) := hS
    clear ht hS
    by_cases htot : actor.size + 16 * n ≤ 1048576
    · have htot' : (actor.size : Int) + 16 * (n : Int) ≤ 1048576 := by omega
      go_wp2_with (first
        | (at_make; refine wpList_make_full _ rfl (.tmp 30) (.tmp 30) 22 rfl w.heap.size 9 i0 (.string ⟨#[]⟩) 1 Try.underlying22 hi hz0 hz1 .i64 .i64 _ _ n rfl rfl rfl rfl (by rw [hz2]; omega) (by unfold maxLen; omega) (Nat.le_refl _) ?_; intro w1 hown1 hgrow1; have hb1 : Below w.heap.size w w1 := (Below.refl _ _).grown hgrow1 (Nat.le_refl _) (fun k hk => by cases hk); have hg1 := block_of_full hown1; clear hown1 hgrow1)
        | (refine wpList_copy_splice (by rfl) (.tmp 32) (.tmp 33) 22 22 (by rfl) 9 Try.underlying22 hsz1 (some ⟨w.heap.size, 0, none⟩) (some ⟨b, off, none⟩) n n n c (by rfl) (by rfl) w.heap.size 0 _ 9 hg1 (SL S n) (by rw [SL_len]; simp) (fun _ => ⟨rfl, _, rfl, SL_src HC.out hb1⟩) (by rw [cells_made, SL_len]; omega) (SL_one S n) w.heap.size w hb1 (Nat.le_refl _) ?_; intro w2 HG2 hB2))
      have hg2 : w2.heap[w.heap.size]? = some (.cells (SL S n).toArray 9 (0, 0)) := by
        have := HG2.out
        rw [splice_all _ _ (by rw [cells_made, SL_len])] at this
        exact this
      clear HG2 hg1 hb1
      have HK : Hid (∀ i, i < n → w2.cell? ⟨w.heap.size, 0 + i, none⟩ = some (.string (S i))) := fun i hi => SL_cell hg2 i hi
      clear hg2
      go_loop [8, 9] (fun t i => ∃ k T : Nat, i = .int .i64 k ∧ t = .int .i64 T ∧ k ≤ n ∧ T ≤ 1048576) (fun _ i => n - (intOf i).toNat)
      case atStart => exact ⟨0, actor.size + 16 * n, rfl, by go_num, Nat.zero_le _, htot⟩
      case round =>
        obtain ⟨k, T, rfl, rfl, hk, hT⟩ := hrel
        by_cases hlt : k < n
        · have hc1 := HK.out k hlt
          have hs1 := HS.out k hlt
          rw [Nat.zero_add] at hc1
          go_wp2
          · go_ret
            exact ⟨rfl, hB2⟩
          · go_round
            case rel => exact ⟨k + 1, T + (S k).size, by go_num, by go_num, by omega, by omega⟩
            case measure => simp [intOf]; omega
        · obtain rfl : k = n := by omega
          have hn0 : ((k : Int) == 0) = false := by simp; omega
          by_cases hf0 : from_ < 0
          · go_wp2
            go_ret
            exact ⟨rfl, hB2⟩
          · have hf0' : decide (from_ < 0) = false := by simpa using hf0
            by_cases hf1 : (k : Int) ≤ from_
            · go_wp2
              go_ret
              exact ⟨rfl, hB2⟩
            · have hf1' : decide ((k : Int) ≤ from_) = false := by simpa using hf1
              obtain ⟨f, rfl⟩ := Int.eq_ofNat_of_zero_le (Int.not_lt.1 hf0)
              have HA6 : Hid _ := asc_any w.heap.size 0 k k S w2 (by omega) HK.out (fun i hi => by have := HS.out i hi; omega)
              go_wp2_with fail
              refine Calls.mono HA6.out ?_
              rintro e w3 ⟨t, rfl, ht, m1, hw3⟩
              have HW3 : Hid (w3 = w2.drewN m1) := hw3
              have hB3 : Below w.heap.size w w3 := by rw [HW3.out]; exact below_drewN hB2 _
              have HK3 : Hid (∀ i, i < k → w3.cell? ⟨w.heap.size, 0 + i, none⟩ = some (.string (S i))) := by intro i hi; rw [HW3.out]; exact HK.out i hi
              clear hw3 HA6 HK hB2 HW3
              cases t with
              | false =>
                clear ht
                go_wp2
                go_ret
                exact ⟨rfl, hB3⟩
              | true =>
                have hmono := mono_of (ht rfl) actor
                have HM : Hid (∀ i j, i < j → j < k → cmpS (S j) actor ≤ 0 → cmpS (S i) actor < 0) := hmono
                clear ht hmono
                have hcl := HK3.out (k - 1) (by omega)
                rw [Nat.zero_add] at hcl
                have hsl := HS.out (k - 1) (by omega)
                have hl1 : (0 : Int) ≤ (k : Int) - 1 := by omega
                by_cases hlast : cmpS (S (k - 1)) actor ≤ 0
                · go_wp2_with (go_at_call 7; refine (cmpStr_any _ _ _ (by omega) ha).mono ?_; rintro e w4 ⟨rfl, m2, hw4⟩; subst hw4)
                  go_ret
                  exact ⟨rfl, below_drewN hB3 _⟩
                · have hlast' : 0 < cmpS (S (k - 1)) actor := by omega
                  have hlast2 : decide (cmpS (S (k - 1)) actor ≤ 0) = false := by simpa using hlast'
                  go_wp2_with (go_at_call 7; refine (cmpStr_any _ _ _ (by omega) ha).mono ?_; rintro e w4 ⟨rfl, m2, hw4⟩; subst hw4)
                  have HL : Hid (0 < cmpS (S (k - 1)) actor) := hlast'
                  clear hlast hlast' hlast2 hcl hsl
                  go_loopw [11] (fun t wr => ∃ e m : Nat, t = .int .i64 e ∧ f ≤ e ∧ e < k ∧ (∀ i, f ≤ i → i < e → cmpS (S i) actor < 0) ∧ wr = w3.drewN m) (fun t _ => k - (intOf t).toNat)
                  case atStart => exact ⟨f, m2, rfl, Nat.le_refl _, by omega, fun i h1 h2 => by omega, rfl⟩
                  case round =>
                    obtain ⟨e, m, rfl, hfe, hek, hall, hwr⟩ := hrel
                    have HA : Hid (∀ i, f ≤ i → i < e → cmpS (S i) actor < 0) := hall
                    have HWR : Hid (wr = w3.drewN m) := hwr
                    have HKr : Hid (∀ i, i < k → wr.cell? ⟨w.heap.size, 0 + i, none⟩ = some (.string (S i))) := by intro i hi; rw [HWR.out]; exact HK3.out i hi
                    have hBr : Below w.heap.size w wr := by rw [HWR.out]; exact below_drewN hB3 _
                    clear hall hwr
                    have hc1 := HKr.out e hek
                    rw [Nat.zero_add] at hc1
                    have hs1 := HS.out e hek
                    have hl2 : (e : Int) < (k : Int) := by omega
                    by_cases hce : cmpS (S e) actor < 0
                    · have hne : e ≠ k - 1 := fun e1 => by have := HL.out; rw [← e1] at this; omega
                      have HA2 : Hid (∀ i, f ≤ i → i < e + 1 → cmpS (S i) actor < 0) := fun i h1 h2 => by
                        by_cases e1 : i = e
                        · rw [e1]; exact hce
                        · exact HA.out i h1 (by omega)
                      go_wp2_with (go_at_call 7; refine (cmpStr_any _ _ _ (by omega) ha).mono ?_; rintro e w4 ⟨rfl, m2, hw4⟩; subst hw4)
                      go_roundw
                      case rel => exact ⟨e + 1, _, by go_num, by omega, by omega, HA2.out, by rw [HWR.out, World.drewN_drewN]⟩
                      case measure => simp [intOf]; omega
                    · have hce' : 0 ≤ cmpS (S e) actor := by omega
                      go_wp2_with (go_at_call 7; refine (cmpStr_any _ _ _ (by omega) ha).mono ?_; rintro e w4 ⟨rfl, m2, hw4⟩; subst hw4)
                      refine (entries_any w.heap.size 0 k k S _ (by omega) (by exact fun i hi => HKr.out i hi)).mono ?_
                      rintro r5 w5 ⟨rfl, hcs, hb5⟩
                      have HCS : Hid (∀ i, i < k → w5.cell? ⟨wr.heap.size, i * 2, none⟩ = some (.string (S i))) := hcs
                      have hB5 : Below w.heap.size w w5 := (below_drewN hBr _).trans (hb5.mono hBr.size)
                      clear hcs hb5
                      go_wp2_with fail
                      refine (zzgallop_any wr.heap.size k f e S actor _ HCS.out hn HM.out HL.out (by omega) hfe hek HA.out hce').mono ?_
                      rintro r6 w6 ⟨rfl, hw⟩
                      have hw' := hw.symm
                      clear hw
                      subst hw'
                      go_wp2
                      go_ret
                      exact ⟨rfl, hB5⟩
    · go_wp2_with (first
      | (at_make; refine wpList_make_full _ rfl (.tmp 30) (.tmp 30) 22 rfl w.heap.size 9 i0 (.string ⟨#[]⟩) 1 Try.underlying22 hi hz0 hz1 .i64 .i64 _ _ n rfl rfl rfl rfl (by rw [hz2]; omega) (by unfold maxLen; omega) (Nat.le_refl _) ?_; intro w1 hown1 hgrow1; have hb1 : Below w.heap.size w w1 := (Below.refl _ _).grown hgrow1 (Nat.le_refl _) (fun k hk => by cases hk); have hg1 := block_of_full hown1; clear hown1 hgrow1)
      | (refine wpList_copy_splice (by rfl) (.tmp 32) (.tmp 33) 22 22 (by rfl) 9 Try.underlying22 hsz1 (some ⟨w.heap.size, 0, none⟩) (some ⟨b, off, none⟩) n n n c (by rfl) (by rfl) w.heap.size 0 _ 9 hg1 (SL S n) (by rw [SL_len]; simp) (fun _ => ⟨rfl, _, rfl, SL_src HC.out hb1⟩) (by rw [cells_made, SL_len]; omega) (SL_one S n) w.heap.size w hb1 (Nat.le_refl _) ?_; intro w2 HG2 hB2))
      go_ret
      exact ⟨rfl, hB2⟩

set_option maxRecDepth 100000 in
set_option maxHeartbeats 1000000 in
theorem law3_long (b off n c : Nat) (S : Nat → ByteArray) (from_ : Int) (actor : ByteArray) (w : World) (hn : 65536 < n) (hn2 : n ≤ 9223372036854775807) (ha : actor.size ≤ 9223372036854775807)
    (hcell : ∀ i, i < n → w.cell? ⟨b, off + i, none⟩ = some (.string (S i))) (hsz : ∀ i, i < n → (S i).size ≤ 9223372036854775807) :
    Calls Try.prog 3 #[.slice (some ⟨b, off, none⟩) n c, .int .i64 from_, .string actor] w fun e w' => e = .returned (.bool true) ∧ Below w.heap.size w w' := by
  have HZ : Hid _ := zz5_any b off n c S from_ actor w hn2 ha hcell hsz
  clear hcell hsz
  go_enter Try.func3, Try.ntmps3
  go_wp2_with fail
  refine Calls.mono HZ.out ?_
  rintro e w2 ⟨t, rfl, ht, hw⟩
  have hw' := hw.symm
  clear hw HZ
  subst hw'
  cases t with
  | false =>
    clear ht
    go_wp2
    go_ret
    exact ⟨rfl, Below.refl _ _⟩
  | true =>
    clear ht
    go_wp2
    all_goals
      go_ret
      exact ⟨rfl, Below.refl _ _⟩

set_option maxHeartbeats 1000000 in
theorem zz5_empty (a : Option Addr) (c : Nat) (from_ : Int) (actor : ByteArray) (w : World) (ha : actor.size ≤ 9223372036854775807) :
    Calls Try.prog 5 #[.slice a 0 c, .int .i64 from_, .string actor] w (Zz 0 (fun _ => ⟨#[]⟩) (actor.size ≤ 1048576) w) := by
  go_enter Try.func5, Try.ntmps5
  go_wp2
  refine wp_loop_rounds 1 ?_; rw [rounds_succ]
  go_wp2
  all_goals go_ret
  · exact Zz.no
  · exact Zz.yes (by omega) (fun i hi => by omega) (by omega)

set_option maxRecDepth 100000 in
set_option maxHeartbeats 1000000 in
theorem law3_nil (from_ : Int) (actor : ByteArray) (w : World) (ha : actor.size ≤ 9223372036854775807) :
    Calls Try.prog 3 #[.slice none 0 0, .int .i64 from_, .string actor] w fun e w' => e = .returned (.bool true) ∧ Below w.heap.size w w' := by
  have hnil : ∀ (w : World) (a : Option Addr) (n c : Nat), (binOp .neq 22 (.slice a n c) (.slice none 0 0)).run Try.prog w = .ok (.bool (!a.isNone)) w := fun w a n c => run_neq_slice_nil_any w 22 9 a n c 0 0 Try.underlying22
  have HZ : Hid _ := zz5_empty none 0 from_ actor w ha
  go_enter Try.func3, Try.ntmps3
  go_wp2_with fail
  refine Calls.mono HZ.out ?_
  rintro e w2 ⟨t, rfl, ht, hw⟩
  have hw' := hw.symm
  clear hw HZ
  subst hw'
  cases t with
  | false =>
    clear ht
    go_wp2
    go_ret
    exact ⟨rfl, Below.refl _ _⟩
  | true =>
    obtain ⟨-, -, hA⟩ := ht rfl
    clear ht
    go_wp2
    refine wp_loop_rounds 1 ?_; rw [rounds_succ]
    go_wp2
    go_ret
    exact ⟨rfl, Below.refl _ _⟩

set_option maxRecDepth 100000 in
set_option maxHeartbeats 1000000 in
theorem law3_empty (x : Addr) (c : Nat) (from_ : Int) (actor : ByteArray) (w : World) (ha : actor.size ≤ 9223372036854775807) :
    Calls Try.prog 3 #[.slice (some x) 0 c, .int .i64 from_, .string actor] w fun e w' => e = .returned (.bool true) ∧ Below w.heap.size w w' := by
  obtain ⟨i0, hi, hz0, hz1, hz2⟩ := info_parts Try.info9
  have hsz1 : (Try.prog.info? 9).map (·.size) = some 1 := by rw [hi]; simp [hz1]
  have hnil : ∀ (w : World) (a : Option Addr) (n c : Nat), (binOp .neq 22 (.slice a n c) (.slice none 0 0)).run Try.prog w = .ok (.bool (!a.isNone)) w := fun w a n c => run_neq_slice_nil_any w 22 9 a n c 0 0 Try.underlying22
  have HZ : Hid _ := zz5_empty (some x) c from_ actor w ha
  go_enter Try.func3, Try.ntmps3
  go_wp2_with fail
  refine Calls.mono HZ.out ?_
  rintro e w2 ⟨t, rfl, ht, hw⟩
  have hw' := hw.symm
  clear hw HZ
  subst hw'
  cases t with
  | false =>
    clear ht
    go_wp2
    go_ret
    exact ⟨rfl, Below.refl _ _⟩
  | true =>
    obtain ⟨-, -, hA⟩ := ht rfl
    clear ht
    go_wp2_with (first
      | (at_make; refine wpList_make_full _ rfl (.tmp 30) (.tmp 30) 22 rfl w.heap.size 9 i0 (.string ⟨#[]⟩) 1 Try.underlying22 hi hz0 hz1 .i64 .i64 _ _ 0 rfl rfl rfl rfl (by omega) (by unfold maxLen; omega) (Nat.le_refl _) ?_; intro w1 hown1 hgrow1; have hb1 : Below w.heap.size w w1 := (Below.refl _ _).grown hgrow1 (Nat.le_refl _) (fun k hk => by cases hk); clear hown1 hgrow1)
      | (refine wpList_copy_nothing (by rfl) (.tmp 32) (.tmp 33) 22 22 (by rfl) 9 Try.underlying22 hsz1 (some ⟨w.heap.size, 0, none⟩) (some x) 0 0 0 c (by rfl) (by rfl) (by rfl) ?_))
    refine wp_loop_rounds 1 ?_; rw [rounds_succ]
    go_wp2
    go_ret
    exact ⟨rfl, hb1⟩
end Go.Proofs.Qxb6619220a
