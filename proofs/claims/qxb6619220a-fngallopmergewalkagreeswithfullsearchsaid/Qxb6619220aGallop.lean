/-
  The walks of 'gallop' (11), 'ZZGallop' (9), 'strictlyAscending' (6), 'ZZMakeEntries' (8).
-/
import Derived.Test.Qxb6619220aCmp
namespace Go.Proofs.Qxb6619220a
open Go.RowKit Pl

theorem ret_pair {a b : Int} {x y : Bool} (h : a = b) (h' : x = y) : Ending.returned (.tuple #[.int .i64 a, .bool x]) = .returned (.tuple #[.int .i64 b, .bool y]) := by rw [h, h']

set_option maxHeartbeats 1000000 in
theorem gallop_any (g n from_ e : Nat) (S : Nat → ByteArray) (actor : ByteArray) (w : World) (hcell : ∀ i, i < n → w.cell? ⟨g, i * 2, none⟩ = some (.string (S i)))
    (hn : n ≤ 65536) (mono : ∀ i j, i < j → j < n → cmpS (S j) actor ≤ 0 → cmpS (S i) actor < 0) (hlast : 0 < cmpS (S (n - 1)) actor)
    (hfrom : from_ < n) (he : from_ ≤ e) (hen : e < n) (hmin : ∀ i, from_ ≤ i → i < e → cmpS (S i) actor < 0) (hce : 0 ≤ cmpS (S e) actor) :
    Calls Try.prog 11 #[.slice (some ⟨g, 0, none⟩) n n, .int .i64 from_, .string actor] w fun r w' => r = .returned (.tuple #[.int .i64 e, .bool (cmpS (S e) actor == 0)]) ∧ w' = w := by
  have HC : Hid (∀ i, i < n → w.cell? ⟨g, i * 2, none⟩ = some (.string (S i))) := hcell
  have HM : Hid (∀ i j, i < j → j < n → cmpS (S j) actor ≤ 0 → cmpS (S i) actor < 0) := mono
  have HN : Hid (∀ i, from_ ≤ i → i < e → cmpS (S i) actor < 0) := hmin
  have HL : Hid (0 < cmpS (S (n - 1)) actor) := hlast
  have HE : Hid (0 ≤ cmpS (S e) actor) := hce
  clear hcell mono hmin hlast hce
  go_enter Try.func11, Try.ntmps11
  go_wp2
  go_loop [8, 9, 10] (fun lo hi st => ∃ l h s : Nat, lo = .int .i64 l ∧ hi = .int .i64 h ∧ st = .int .i64 s ∧ from_ ≤ l ∧ l ≤ h ∧ h < n ∧ l ≤ e ∧ 1 ≤ s ∧ s ≤ 2 * n ∧ (s ≤ h - from_ + 1 ∨ h = n - 1))
    (fun _ hi _ => n - (intOf hi).toNat)
  case atStart => exact ⟨from_, from_, 1, rfl, rfl, rfl, by omega, by omega, hfrom, he, by omega, by omega, .inl (by omega)⟩
  case round =>
    obtain ⟨l, h, s, rfl, rfl, rfl, hfl, hlh, hhn, hle, hs1, hs2, hs3⟩ := hrel
    have hcell := HC.out h hhn
    have hl1 : (h : Int) < (n : Int) := by omega
    rcases (show cmpS (S h) actor = 0 ∨ 0 < cmpS (S h) actor ∨ cmpS (S h) actor < 0 by omega) with hz | hz | hz
    · have hb0 : (cmpS (S h) actor == 0) = true := by simpa using hz
      go_wp2_with (go_at_call 12; refine (compare_any _ _ _).mono ?_; rintro r w2 ⟨rfl, hw⟩; have hw' := hw.symm; clear hw; subst hw')
      have ee : e = h := by
        have h1 : ¬ e < h := fun hlt => by have := HM.out e h hlt hhn (by omega); have := HE.out; omega
        have h2 : ¬ h < e := fun hlt => by have := HN.out h (by omega) hlt; omega
        omega
      subst ee
      go_ret2
      exact ⟨ret_pair rfl (by rw [hz]; rfl), rfl⟩
    · have hb0 : (cmpS (S h) actor == 0) = false := by simp; omega
      go_wp2_with (go_at_call 12; refine (compare_any _ _ _).mono ?_; rintro r w2 ⟨rfl, hw⟩; have hw' := hw.symm; clear hw; subst hw')
      have heh : e ≤ h := by
        have h2 : ¬ h < e := fun hlt => by have := HN.out h (by omega) hlt; omega
        omega
      go_loop [8, 9] (fun lo hi => ∃ l h : Nat, lo = .int .i64 l ∧ hi = .int .i64 h ∧ from_ ≤ l ∧ l ≤ e ∧ e ≤ h ∧ h < n ∧ 0 < cmpS (S h) actor)
        (fun lo hi => (intOf hi - intOf lo).toNat)
      case atStart => exact ⟨l, h, rfl, rfl, hfl, hle, heh, hhn, hz⟩
      case round =>
        clear hz heh hle hlh hhn hs1 hs2 hs3 hcell hl1
        obtain ⟨l, h, rfl, rfl, hfl, hle, heh, hhn, hz⟩ := hrel
        by_cases hlt : l < h
        · obtain ⟨m, hm⟩ : ∃ m : Nat, m = (l + h) / 2 := ⟨_, rfl⟩
          have hmn : m < n := by omega
          have hml : l ≤ m := by omega
          have hmh : m < h := by omega
          have hcell := HC.out m hmn
          have hm2 : ((l : Int) + (h : Int)) / 2 = (m : Int) := by omega
          have hl1 : (m : Int) < (n : Int) := by omega
          clear hm
          go_wp2_with (go_at_call 12; refine (compare_any _ _ _).mono ?_; rintro r w2 ⟨rfl, hw⟩; have hw' := hw.symm; clear hw; subst hw')
          · have hz0 : cmpS (S m) actor = 0 := by
              have h0 : (cmpS (S m) actor == 0) = true := by assumption
              simpa using h0
            have ee : e = m := by
              have h1 : ¬ e < m := fun hlt => by have := HM.out e m hlt hmn (by omega); have := HE.out; omega
              have h2 : ¬ m < e := fun hlt => by have := HN.out m (by omega) hlt; omega
              omega
            subst ee
            go_ret2
            exact ⟨ret_pair rfl (by rw [hz0]; rfl), rfl⟩
          · have hz0 : cmpS (S m) actor < 0 := by assumption
            have hme : m < e := by
              have h1 : ¬ e < m := fun hlt => by have := HM.out e m hlt hmn (by omega); have := HE.out; omega
              have h2 : e ≠ m := fun e1 => by have := HE.out; rw [e1] at this; omega
              omega
            go_round
            case rel => exact ⟨m + 1, h, by go_num, rfl, by omega, by omega, heh, hhn, hz⟩
            case measure => simp [intOf]; omega
          · have hz0 : 0 < cmpS (S m) actor := by
              have h0 : (cmpS (S m) actor == 0) = false := by assumption
              have h1 : 0 ≤ cmpS (S m) actor := by assumption
              have h2 : cmpS (S m) actor ≠ 0 := by simpa using h0
              omega
            have hem : e ≤ m := by
              have h2 : ¬ m < e := fun hlt => by have := HN.out m (by omega) hlt; omega
              omega
            go_round
            case rel => exact ⟨l, m, rfl, rfl, hfl, hle, hem, hmn, hz0⟩
            case measure => simp [intOf]; omega
        · obtain rfl : l = e := by omega
          obtain rfl : l = h := by omega
          go_wp2
          go_ret2
          refine ⟨ret_pair rfl ?_, rfl⟩
          have h2 : cmpS (S l) actor ≠ 0 := by omega
          simpa using h2
    · have hb0 : (cmpS (S h) actor == 0) = false := by simp; omega
      have hb1 : ¬ 0 < cmpS (S h) actor := by omega
      go_wp2_with (go_at_call 12; refine (compare_any _ _ _).mono ?_; rintro r w2 ⟨rfl, hw⟩; have hw' := hw.symm; clear hw; subst hw')
      have hh : h < n - 1 := by
        have h1 : h ≠ n - 1 := fun e1 => by have := HL.out; rw [← e1] at this; omega
        omega
      have hhe : h < e := by
        have h1 : ¬ e < h := fun hlt => by have := HM.out e h hlt hhn (by omega); have := HE.out; omega
        have h2 : e ≠ h := fun e1 => by have := HE.out; rw [e1] at this; omega
        omega
      have hs3' : s ≤ h - from_ + 1 := by omega
      go_round
      case rel => exact ⟨h + 1, if h + s ≤ n - 1 then h + s else n - 1, s * 2, by go_num, by congr 1; split <;> omega, by go_num, by omega, by split <;> omega, by split <;> omega, by omega, by omega, by omega, by split <;> omega⟩
      case measure => simp [intOf]; omega

set_option maxHeartbeats 400000 in
theorem zzgallop_any (g n from_ e : Nat) (S : Nat → ByteArray) (actor : ByteArray) (w : World) (hcell : ∀ i, i < n → w.cell? ⟨g, i * 2, none⟩ = some (.string (S i)))
    (hn : n ≤ 65536) (mono : ∀ i j, i < j → j < n → cmpS (S j) actor ≤ 0 → cmpS (S i) actor < 0) (hlast : 0 < cmpS (S (n - 1)) actor)
    (hfrom : from_ < n) (he : from_ ≤ e) (hen : e < n) (hmin : ∀ i, from_ ≤ i → i < e → cmpS (S i) actor < 0) (hce : 0 ≤ cmpS (S e) actor) :
    Calls Try.prog 9 #[.slice (some ⟨g, 0, none⟩) n n, .int .i64 from_, .string actor] w fun r w' => r = .returned (.tuple #[.int .i64 e, .bool (cmpS (S e) actor == 0)]) ∧ w' = w := by
  have H : Hid _ := gallop_any g n from_ e S actor w hcell hn mono hlast hfrom he hen hmin hce
  clear hcell mono hlast hmin hce
  go_enter Try.func9, Try.ntmps9
  go_wp2_with (go_at_call 11; refine Calls.mono H.out ?_; rintro r w2 ⟨rfl, hw⟩; have hw' := hw.symm; clear hw; subst hw')
  go_ret2
  exact ⟨rfl, rfl⟩

set_option maxHeartbeats 400000 in
theorem asc_short (a : Option Addr) (n c : Nat) (hn : n ≤ 1) (w : World) :
    Calls Try.prog 6 #[.slice a n c] w fun e w' => e = .returned (.bool true) ∧ w' = w := by
  go_enter Try.func6, Try.ntmps6
  go_wp2
  refine wp_loop_rounds 1 ?_; rw [rounds_succ]
  go_wp2
  go_ret
  exact ⟨rfl, rfl⟩

set_option maxHeartbeats 1000000 in
theorem asc_any (b off n c : Nat) (S : Nat → ByteArray) (w : World) (hn : n ≤ 1048576) (hcell : ∀ i, i < n → w.cell? ⟨b, off + i, none⟩ = some (.string (S i))) (hsz : ∀ i, i < n → (S i).size ≤ 9223372036854775807) :
    Calls Try.prog 6 #[.slice (some ⟨b, off, none⟩) n c] w fun e w' => ∃ t, e = .returned (.bool t) ∧ (t = true → ∀ i, i + 1 < n → cmpS (S i) (S (i + 1)) < 0) ∧ ∃ m, w' = w.drewN m := by
  have HC : Hid (∀ i, i < n → w.cell? ⟨b, off + i, none⟩ = some (.string (S i))) := hcell
  have HS : Hid (∀ i, i < n → (S i).size ≤ 9223372036854775807) := hsz
  clear hcell hsz
  go_enter Try.func6, Try.ntmps6
  go_wp2
  go_loopw [3] (fun i wr => ∃ p m : Nat, i = .int .i64 p ∧ 1 ≤ p ∧ (p = 1 ∨ p ≤ n) ∧ (∀ i, i + 1 < p → cmpS (S i) (S (i + 1)) < 0) ∧ wr = w.drewN m) (fun i _ => n - (intOf i).toNat)
  case atStart => exact ⟨1, 0, rfl, Nat.le_refl _, .inl rfl, fun i h => by omega, rfl⟩
  case round =>
    obtain ⟨p, m, rfl, hp1, hp2, hall, hwr⟩ := hrel
    have HW : Hid (wr = w.drewN m) := hwr
    have HA : Hid (∀ i, i + 1 < p → cmpS (S i) (S (i + 1)) < 0) := hall
    clear hall hwr
    by_cases hlt : p < n
    · obtain ⟨k, hk⟩ : ∃ k : Nat, p = k + 1 := ⟨p - 1, by omega⟩
      have hc1 : wr.cell? ⟨b, off + k, none⟩ = some (.string (S k)) := by rw [HW.out]; exact HC.out k (by omega)
      have hc2 : wr.cell? ⟨b, off + p, none⟩ = some (.string (S p)) := by rw [HW.out]; exact HC.out p hlt
      have hs1 := HS.out k (by omega)
      have hs2 := HS.out p hlt
      have hl1 : (k : Int) < (n : Int) := by omega
      have hl2 : (p : Int) < (n : Int) := by omega
      have hwk : IntKind.i64.wrap ((p : Int) - 1) = k := by rw [IntKind.wrap_i64]; omega
      have HK : Hid (p = k + 1) := hk
      clear hk
      by_cases hcm : cmpS (S k) (S p) < 0
      · have HA2 : Hid (∀ i, i + 1 < p + 1 → cmpS (S i) (S (i + 1)) < 0) := fun i hi => by
          by_cases e : i = k
          · rw [e, ← HK.out]; exact hcm
          · exact HA.out i (by have := HK.out; omega)
        have hd : decide (0 ≤ cmpS (S k) (S p)) = false := by simpa using hcm
        go_wp2_with fail
        go_quiet ((go_at_call 7; exact Calls.quiet_of (cmpStr_any _ _ _ hs1 hs2)))
        go_wp2
        go_roundw
        case rel => exact ⟨p + 1, _, by go_num, by omega, .inr (by omega), HA2.out, by rw [HW.out, World.drewN_drewN]⟩
        case measure => simp [intOf]; omega
      · have hd : 0 ≤ cmpS (S k) (S p) := by omega
        go_wp2_with fail
        go_quiet ((go_at_call 7; exact Calls.quiet_of (cmpStr_any _ _ _ hs1 hs2)))
        go_wp2
        go_ret
        exact ⟨false, rfl, (fun h => by cases h), _, by rw [HW.out, World.drewN_drewN]⟩
    · go_wp2
      go_ret
      exact ⟨true, rfl, fun _ i hi => HA.out i (by omega), m, HW.out⟩

theorem block_of_owned {w : World} {base : Nat} {e : TypeId} {g n size : Nat} {xs : List Value} (h : w.ownsRow base e size (.slice (some ⟨g, 0, none⟩) n n) n xs) : ∃ cur, w.heap[g]? = some (.cells cur e (0, 0)) ∧ cur.size = n * size := by
  rcases h.2 with ⟨h', _⟩ | ⟨g', cap', cur, h', _, hg, _, _, hcs, _⟩
  · simp at h'
  · simp only [Value.slice.injEq, Option.some.injEq, Addr.mk.injEq, and_true, true_and] at h'
    obtain ⟨rfl, rfl⟩ := h'
    exact ⟨cur, hg, hcs⟩

theorem Try.info33 : (Try.prog.info? 33).map (fun i => (i.zero, i.size, i.bytes)) = some (some (.agg #[.string ⟨#[]⟩, .int .u64 0]), 2, 24) := by kernel_rfl

set_option maxHeartbeats 1000000 in
theorem entries_any (b off n c : Nat) (S : Nat → ByteArray) (w : World) (hn : n ≤ 1048576) (hcell : ∀ i, i < n → w.cell? ⟨b, off + i, none⟩ = some (.string (S i))) :
    Calls Try.prog 8 #[.slice (some ⟨b, off, none⟩) n c] w fun e w' => e = .returned (.slice (some ⟨w.heap.size, 0, none⟩) n n) ∧ (∀ i, i < n → w'.cell? ⟨w.heap.size, i * 2, none⟩ = some (.string (S i))) ∧ Below w.heap.size w w' := by
  obtain ⟨i0, hi, hz0, hz1, hz2⟩ := info_parts Try.info33
  have HC : Hid (∀ i, i < n → w.cell? ⟨b, off + i, none⟩ = some (.string (S i))) := hcell
  clear hcell
  go_enter Try.func8, Try.ntmps8
  go_wp2_with (at_make; refine wpList_make_full _ rfl (.tmp 6) (.tmp 6) 26 rfl w.heap.size 33 i0 _ 2 Try.underlying26 hi hz0 hz1 .i64 .i64 _ _ n rfl rfl rfl rfl (by rw [hz2]; omega) (by unfold maxLen; omega) (Nat.le_refl _) ?_; intro w1 hown1 hgrow1)
  have hb1 : Below w.heap.size w w1 := (Below.refl _ _).grown hgrow1 (Nat.le_refl _) (fun k hk => by cases hk)
  clear hgrow1
  go_loopw [4] (fun i wr => ∃ (k : Nat) (cs : Array Value), i = .int .i64 k ∧ k ≤ n ∧ cs.size = n * 2 ∧ wr.heap[w.heap.size]? = some (.cells cs 33 (0, 0)) ∧ (∀ i, i < k → cs[i * 2]? = some (.string (S i))) ∧ Below w.heap.size w wr) (fun i _ => n - (intOf i).toNat)
  case atStart =>
    obtain ⟨cur, hcur, hsz⟩ := block_of_owned hown1
    exact ⟨0, cur, rfl, Nat.zero_le _, hsz, hcur, fun i hi => by omega, hb1⟩
  case round =>
    obtain ⟨k, cs, rfl, hk, hcs, hg, hdone, hbr⟩ := hrel
    by_cases hlt : k < n
    · have h1 := HC.out k hlt
      have hc1 : wr.cell? ⟨b, off + k, none⟩ = some (.string (S k)) := by rw [hbr.cell (World.block_lt_of_cell? _ _ h1)]; exact h1
      have hne : b ≠ w.heap.size := by have := World.block_lt_of_cell? _ _ h1; simp at this; omega
      have hl1 : (k : Int) < (n : Int) := by omega
      obtain ⟨v0, hv0⟩ : ∃ v, wr.cell? ⟨w.heap.size, k * 2, none⟩ = some v := by rw [cell_of_row wr _ _ cs 33 (0, 0) hg]; exact ⟨_, Array.getElem?_eq_getElem (by omega)⟩
      obtain ⟨v1, hv1⟩ : ∃ v, wr.cell? ⟨w.heap.size, k * 2 + 1, none⟩ = some v := by rw [cell_of_row wr _ _ cs 33 (0, 0) hg]; exact ⟨_, Array.getElem?_eq_getElem (by omega)⟩
      have hf0 := frozen_of_row wr w.heap.size (k * 2) cs 33 hg
      have hf1 := frozen_of_row wr w.heap.size (k * 2 + 1) cs 33 hg
      have HG : Hid (wr.heap[w.heap.size]? = some (.cells cs 33 (0, 0))) := hg
      have HD : Hid (∀ i, i < k → cs[i * 2]? = some (.string (S i))) := hdone
      clear hg hdone
      go_wp2
      have hg2 := heap_setCell_same _ _ (k * 2 + 1) _ 33 (Value.int .u64 0) (heap_setCell_same wr w.heap.size (k * 2) cs 33 (.string (S k)) HG.out)
      go_roundw
      case rel =>
        refine ⟨k + 1, _, by go_num, by omega, ?_, hg2, fun i hi => ?_, (hbr.setCell (Nat.le_refl _) _).setCell (Nat.le_refl _) _⟩
        · simp [hcs]
        · rw [Array.getElem?_setIfInBounds_ne (by omega)]
          by_cases e : i = k
          · subst e
            rw [Array.getElem?_setIfInBounds_self_of_lt (by omega)]
          · rw [Array.getElem?_setIfInBounds_ne (by omega)]
            exact HD.out i (by omega)
      case measure => simp [intOf]; omega
    · go_wp2
      go_ret
      obtain rfl : k = n := by omega
      refine ⟨rfl, fun i hi => ?_, hbr⟩
      rw [cell_of_row wr _ _ cs 33 (0, 0) hg]
      exact hdone i hi
end Go.Proofs.Qxb6619220a
